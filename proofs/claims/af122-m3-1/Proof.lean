import JvmDerived
import JvmDerived.Pilot.@@N@@Statement
import JvmDerived.Pilot.@@N@@Code
set_option linter.unusedVariables false
set_option linter.unusedSimpArgs false
namespace Jvm.Pilot.@@N@@
set_option maxRecDepth 65536
set_option maxHeartbeats 40000000
open Jvm Jvm.ClassFile Sem Op Lib Jvm.Free Jvm.Stand Jvm.LawKit Jvm.RoadKit Bundle Jvm.Pilot.@@N@@.Jvm.D
theorem own_cat {v : Value} (h : v.isRef = true) : v.category = 1 := by cases v <;> first | rfl | (simp [Value.isRef] at h)
theorem own_cell {h h' : Heap} {a : Addr} {c : Cell} (e : h' = h) (q : h[a]? = some c) : h'[a]? = some c := by rw [e]; exact q
theorem own_W {Z : State} {a0 : Array Value} (hw : ∀ d ∈ tables_1, d.before a0 Z = true) (i : Nat) {d : Jvm.Cond} (h : tables_1[i]? = some d) : d.before a0 Z = true := hw d (List.mem_of_getElem? h)
theorem own_ble {a b : Nat} (h : Nat.ble a b = true) : a ≤ b := Nat.le_of_ble_eq_true h
abbrev Met (l : Launch) (Z : State) (h0 : Heap) (y : MethodName) (code : ByteArray) (ml : Nat) (ret : Option FieldType) (ws : List Jvm.Cond) (R : Room) (A : Array Value) (Q : Option Value → Heap → List Loc → Prop) : Prop := MetFree l y (head1 (Jvm.Cond.code y code ml ret :: ws) R) (fun a U => a = A ∧ Z.Warmed39 U.vm ∧ U.heap = h0) (fun _ _ _ _ _ => True) (fun _ U o U' => ∃ v L, o = .returned v ∧ Q v U'.heap L ∧ FrameEnd U o U' L R.cells R.slots)
theorem own_go {l : Launch} {Z : State} {h0 : Heap} {y : MethodName} {code : ByteArray} {ml : Nat} {ret : Option FieldType} {ws : List Jvm.Cond} {R : Room} {A : Array Value} {Q : Option Value → Heap → List Loc → Prop} (own : String) (ho : y.cls = own) (hp : plainFor y = true)
    (H : ∀ (p : Program) (e : Env) (s : State) (m : MethodId) (below : List Frame) (meth : Method) (c : Code) (s₁ : State), BodyLoose p l y (head1 (Jvm.Cond.code y code ml ret :: ws) R) code ml ret e s m A below meth c s₁ → p.tables.exec = Jvm.exec → c.code = code → c.maxLocals = ml → s.vm.findClass own = some m.cls → meth.name = y.name → Stand p l e R s m A below meth c s₁ [] 0 0 → s₁.heap = h0 → Z.Warmed39 s.vm →
      ∃ s₂ o, Steps p.tables e below (s₁.setTop (entryFrame m A ml)) s₂ ∧ s₂.status = .running ∧ Ended s₂ below o ∧ ∃ v L, o = .returned v ∧ Q v s₂.heap L ∧ FrameEnd s o s₂ L R.cells R.slots) : Met l Z h0 y code ml ret ws R A Q := by
  refine MetFree.of_bodySF hp hisR ?_
  intro p e s m args below meth c s₁ Bd hml0 hP hK
  obtain ⟨ha, hZ, hh⟩ := hP
  subst ha
  subst ho
  exact H p e s m below meth c s₁ Bd Bd.exec Bd.bytes hml0 (findClass_of_methodNamed Bd.named) (name_of_methodNamed Bd.named Bd.method).1 (Stand.of_body Bd) (by rw [← hh, Bd.state]; rfl) hZ
theorem own_cr (a : Addr) : (Value.ref a).category = 1 := rfl
theorem own_ci (a : Int32) : (Value.int a).category = 1 := rfl
theorem own_cj (a : Int64) : (Value.long a).category = 2 := rfl
theorem own_cn : Value.null.category = 1 := rfl
theorem own_nar {v : Value} {t : FieldType} (ht : t.isReference = true) (h : v.isRef = true) : narrow t v = v := by
  rcases ref_cases h with rfl | ⟨a, rfl⟩ <;> cases t <;> first | rfl | (simp [FieldType.isReference] at ht)
theorem own_fits {v : Value} {t : FieldType} (ht : t.isReference = true) (h : v.isRef = true) : fits t v = true := by
  rcases ref_cases h with rfl | ⟨a, rfl⟩ <;> cases t <;> first | rfl | (simp [FieldType.isReference] at ht)
theorem own_store {l l' : Array Slot} {i : Nat} {v : Value} {o : Slot} (hold : l[i]? = some o) (ho : o = .unset ∨ ∃ w, o = .val w ∧ w.category = 1) (hv : v.category = 1) (e : l.setIfInBounds i (.val v) = l') : storeLocals l i v = some l' := by
  rw [Jvm.Free.XS.store1 hold ho hv, e]
def Glob (Z : State) (a0 : Array Value) (G1 : Int32) (fm : Value) : Prop := (∀ d ∈ tables_1, d.before a0 Z = true) ∧ (Sta Z Z.heap "java/lang/String" "COMPACT_STRINGS" "Z" (.int G1)) ∧ (¬ (G1 = (0 : Int32))) ∧ (Sta Z Z.heap "java/lang/StringUTF16" "$assertionsDisabled" "Z" (.int 1)) ∧ (Sta Z Z.heap "java/lang/StringUTF16" "HI_BYTE_SHIFT" "I" (.int 0)) ∧ (Sta Z Z.heap "java/lang/StringUTF16" "LO_BYTE_SHIFT" "I" (.int 8)) ∧ (Sta Z Z.heap "jdk/internal/util/Preconditions" "SIOOBE_FORMATTER" "Ljava/util/function/BiFunction;" fm) ∧ (fm.isRef = true)
def own_EL : List (String × Nat) := [("java/lang/String", 7)]
theorem own_ew {Z : State} {a0 : Array Value} (hw : ∀ d ∈ tables_1, d.before a0 Z = true) : EW Z a0 own_EL := by
  have W := @own_W _ _ hw
  exact EW.cons (W 15 rfl) (by decide) (EW.nil)
theorem own_sa {Z : State} {a0 : Array Value} (hw : ∀ d ∈ tables_1, d.before a0 Z = true) : ∀ a ∈ Bundle.stringAtoms, a.before a0 Z = true := fun d hd => hw d ((by decide +kernel : ∀ d ∈ Bundle.stringAtoms, d ∈ tables_1) d hd)
theorem own_mono {s t : State} {o : Outcome} {L : List Loc} {k n k' n' : Nat} (h : ReturnedEndW s o t L k n) (hk : k ≤ k') (hn : n ≤ n') : ReturnedEndW s o t L k' n' := ⟨h.1, h.2.1, h.2.2.1, h.2.2.2.mono hk hn⟩
theorem own_safeS {Z : State} {EL : List (String × Nat)} {vm : Vm} {h : Heap} {x : Addr} (hal : Z.vm.Alike vm) (E : Exa Z h x "java/lang/String") (F0 : Fld Z h x "java/lang/String" "value" "[B" .null) : Safe Z EL vm h x := fun B => by
  obtain ⟨p, hp, u, a, hb, q, hq, F, e | e⟩ := B
  · subst e
    obtain ⟨cell, cf, k, i, f, h1, h2, -, -, -, -, h7⟩ := F0
    cases (show h[q.sa]? = some q.sC from F.ha).symm.trans h1
    obtain ⟨cS, ⟨⟨-, -, -, ⟨c1, k1, i1, f1, -⟩, -, -, -, v1, -⟩, -⟩, -⟩ := F
    obtain ⟨k3, e3, -⟩ := State.fieldFound?_setVm (s := Z) hal h2
    have e4 := (show (Wst Z vm h).fieldFound? _ _ _ = _ from e3).symm.trans f1
    simp only [Option.some.injEq, Prod.mk.injEq] at e4
    rw [← e4.2.2.2, h7] at v1
    cases v1
  · subst e
    obtain ⟨cell, k, e1, e2, e3, -, -⟩ := E
    cases (show h[q.sd]? = some q.SA from F.hd).symm.trans e1
    obtain ⟨cS, -, -, f, -⟩ := F
    have f' : vm.findClass "[B" = some q.SA.cls := f
    rw [hal.findClass] at f'
    obtain ⟨k1, q1, q2⟩ := Vm.findClass_spec f'
    obtain ⟨k2, q3, q4⟩ := Vm.findClass_spec e2
    cases q1.symm.trans q3
    exact absurd (q2.symm.trans q4) (by decide)
def own_u16 (c : Int32) : Prop := ¬ c < 0 ∧ ¬ (65535 : Int32) < c
theorem own_rng {c : Int32} (h : own_u16 c) : 0 ≤ c.toInt ∧ c.toInt < 65536 := by
  obtain ⟨h1, h2⟩ := h
  rw [Int32.lt_iff_toInt_lt] at h1 h2
  have e1 : (0 : Int32).toInt = 0 := rfl
  have e2 : (65535 : Int32).toInt = 65535 := rfl
  omega
theorem own_of_rng {c : Int32} (h : 0 ≤ c.toInt ∧ c.toInt < 65536) : own_u16 c := by
  constructor <;> rw [Int32.lt_iff_toInt_lt]
  · have e1 : (0 : Int32).toInt = 0 := rfl
    omega
  · have e2 : (65535 : Int32).toInt = 65535 := rfl
    omega
theorem own_i2c (x : Int32) : own_u16 (x.toUInt32.toUInt16.toUInt32.toInt32) := own_of_rng (by have := c_i2c x; omega)
theorem own_n16 {c : Int32} (h : own_u16 c) : nar .char c = c := by
  apply Int32.toInt_inj.mp
  have h1 := own_rng h
  have h2 := c_i2c c
  show c.toUInt32.toUInt16.toUInt32.toInt32.toInt = c.toInt
  omega
theorem own_lc {c : Int32} (h : own_u16 c) (hl : ¬ (255 : Int32) < c) : nar .char (((c.toInt8.toInt32).toInt8.toInt32 &&& (255 : Int32)).toUInt32.toUInt16.toUInt32.toInt32) = c := by
  apply Int32.toInt_inj.mp
  have h1 := own_rng h
  rw [Int32.lt_iff_toInt_lt] at hl
  have e2 : (255 : Int32).toInt = 255 := rfl
  have a1 := c_i2b c
  have a2 := c_i2b (c.toInt8.toInt32)
  have a3 := c_mask ((c.toInt8.toInt32).toInt8.toInt32) 255 8 (by decide) (by decide)
  have a4 := c_i2c ((c.toInt8.toInt32).toInt8.toInt32 &&& (255 : Int32))
  have a5 := c_i2c (((c.toInt8.toInt32).toInt8.toInt32 &&& (255 : Int32)).toUInt32.toUInt16.toUInt32.toInt32)
  show (((c.toInt8.toInt32).toInt8.toInt32 &&& (255 : Int32)).toUInt32.toUInt16.toUInt32.toInt32).toUInt32.toUInt16.toUInt32.toInt32.toInt = c.toInt
  omega
theorem own_gc {c hi lo : Int32} (h : own_u16 c) (eh : hi = (((c >>> ((0 : Int32) &&& 31)).toInt8.toInt32).toInt8.toInt32)) (el : lo = (((c >>> ((8 : Int32) &&& 31)).toInt8.toInt32).toInt8.toInt32)) : nar .char ((((hi &&& (255 : Int32)) <<< ((0 : Int32) &&& 31)) ||| ((lo &&& (255 : Int32)) <<< ((8 : Int32) &&& 31))).toUInt32.toUInt16.toUInt32.toInt32) = c := by
  apply Int32.toInt_inj.mp
  have h1 := own_rng h
  have a1 := c_ishr c 0 0 (by decide)
  have a2 := c_ishr c 8 8 (by decide)
  have b1 := c_i2b (c >>> ((0 : Int32) &&& 31))
  have b2 := c_i2b ((c >>> ((0 : Int32) &&& 31)).toInt8.toInt32)
  have b3 := c_i2b (c >>> ((8 : Int32) &&& 31))
  have b4 := c_i2b ((c >>> ((8 : Int32) &&& 31)).toInt8.toInt32)
  rw [← eh] at b2
  rw [← el] at b4
  have m1 := c_mask hi 255 8 (by decide) (by decide)
  have m2 := c_mask lo 255 8 (by decide) (by decide)
  have s1 := c_ishl (hi &&& (255 : Int32)) 0 0 (by decide)
  have s2 := c_ishl (lo &&& (255 : Int32)) 8 8 (by decide)
  have r1 := rng32 ((hi &&& (255 : Int32)) <<< ((0 : Int32) &&& 31))
  have r2 := rng32 ((lo &&& (255 : Int32)) <<< ((8 : Int32) &&& 31))
  generalize (hi &&& (255 : Int32)) <<< ((0 : Int32) &&& 31) = s at s1 r1 ⊢
  generalize (lo &&& (255 : Int32)) <<< ((8 : Int32) &&& 31) = t at s2 r2 ⊢
  generalize (hi &&& (255 : Int32)).toInt = mh at m1 s1
  generalize (lo &&& (255 : Int32)).toInt = ml at m2 s2
  generalize (c >>> ((0 : Int32) &&& 31)).toInt8.toInt32.toInt = u at b1 b2
  generalize (c >>> ((8 : Int32) &&& 31)).toInt8.toInt32.toInt = w at b3 b4
  generalize (c >>> ((0 : Int32) &&& 31)).toInt = x at a1 b1
  generalize (c >>> ((8 : Int32) &&& 31)).toInt = y at a2 b3
  simp only [Nat.reducePow] at a1 a2 m1 m2 s1 s2
  have e1 : s.toInt = c.toInt % 256 := by omega
  have e2 : t.toInt = (c.toInt / 256) * 256 := by omega
  have o1 := c_or' s t 8 (by decide) 256 rfl (by omega) (by omega) (by omega)
  have a4 := c_i2c (s ||| t)
  have a5 := c_i2c ((s ||| t).toUInt32.toUInt16.toUInt32.toInt32)
  show ((s ||| t).toUInt32.toUInt16.toUInt32.toInt32).toUInt32.toUInt16.toUInt32.toInt32.toInt = c.toInt
  omega
def own_lb (c : Int32) : Value := .int ((c.toInt8.toInt32).toInt8.toInt32)
def own_hb (c : Int32) : Int32 := (((c >>> ((0 : Int32) &&& 31)).toInt8.toInt32).toInt8.toInt32)
def own_ob (c : Int32) : Int32 := (((c >>> ((8 : Int32) &&& 31)).toInt8.toInt32).toInt8.toInt32)
def own_wb : List Int32 → List Value
  | [] => []
  | c :: cs => .int (own_hb c) :: .int (own_ob c) :: own_wb cs
def own_str (cd z : Int32) (vs : List Value) (cs : List Int32) : Prop := (cd = 0 ∧ z = Int32.ofNat cs.length ∧ vs = cs.map own_lb ∧ ∀ c ∈ cs, ¬ (255 : Int32) < c) ∨ (cd = 1 ∧ z = Int32.ofNat (2 * cs.length) ∧ vs = own_wb cs)
def own_first (j : Int32) (cs : List Int32) : Prop := ∃ K c, j = Int32.ofNat K ∧ cs[K]? = some c ∧ (255 : Int32) < c
theorem own_wbg {d : Value} {c : Int32} : ∀ {cs : List Int32} {K : Nat}, cs[K]? = some c → (own_wb cs).getD (2 * K) d = .int (own_hb c) ∧ (own_wb cs).getD (2 * K + 1) d = .int (own_ob c)
  | [], K, h => by simp at h
  | a :: cs, 0, h => by
    simp at h
    subst h
    exact ⟨rfl, rfl⟩
  | a :: cs, K + 1, h => by
    have q := own_wbg (d := d) (cs := cs) (K := K) (by simpa using h)
    exact q
theorem own_lbg {d : Value} {c : Int32} : ∀ {cs : List Int32} {K : Nat}, cs[K]? = some c → (cs.map own_lb).getD K d = own_lb c
  | [], K, h => by simp at h
  | a :: cs, 0, h => by
    simp at h
    subst h
    rfl
  | a :: cs, K + 1, h => by
    have q := own_lbg (d := d) (cs := cs) (K := K) (by simpa using h)
    exact q
theorem own_klt {c : Int32} {cs : List Int32} {K : Nat} (h : cs[K]? = some c) : K < cs.length := by
  obtain ⟨q, -⟩ := List.getElem?_eq_some_iff.mp h
  exact q
theorem own_mem {c : Int32} {cs : List Int32} {K : Nat} (h : cs[K]? = some c) : c ∈ cs := List.mem_of_getElem? h
theorem own_num1 : ∀ n : Fin 5, ∀ K : Fin 4, K.val < n.val → ¬ (Int32.ofNat K.val) < 0 ∧ (Int32.ofNat K.val) < (Int32.ofNat n.val) ∧ (Int32.ofNat K.val).toNatClampNeg = K.val := by decide +kernel
theorem own_num2 : ∀ n : Fin 5, ∀ K : Fin 4, K.val < n.val → (Int32.ofNat K.val) < ((Int32.ofNat (2 * n.val)) >>> ((1 : Int32) &&& 31)) ∧ (¬ ((Int32.ofNat K.val) <<< ((1 : Int32) &&& 31)) < 0 ∧ ((Int32.ofNat K.val) <<< ((1 : Int32) &&& 31)) < (Int32.ofNat (2 * n.val))) ∧ ((Int32.ofNat K.val) <<< ((1 : Int32) &&& 31)).toNatClampNeg = 2 * K.val ∧ (¬ (((Int32.ofNat K.val) <<< ((1 : Int32) &&& 31)) + (1 : Int32)) < 0 ∧ (((Int32.ofNat K.val) <<< ((1 : Int32) &&& 31)) + (1 : Int32)) < (Int32.ofNat (2 * n.val))) ∧ (((Int32.ofNat K.val) <<< ((1 : Int32) &&& 31)) + (1 : Int32)).toNatClampNeg = 2 * K.val + 1 := by decide +kernel
theorem own_num3 : ∀ n : Fin 5, ((Int32.ofNat n.val) >>> ((0 : Int32) &&& 31)) = Int32.ofNat n.val ∧ ((Int32.ofNat (2 * n.val)) >>> ((1 : Int32) &&& 31)) = Int32.ofNat n.val := by decide +kernel
theorem own_num4 : ∀ n : Fin 5, ∀ K : Fin 4, K.val < n.val → ¬ (Int32.ofNat K.val) = (Int32.ofNat n.val) := by decide +kernel
theorem own_slen {cd z nn : Int32} {vs : List Value} {cs : List Int32} (h : own_str cd z vs cs) (hn : cs.length < 5) (en : nn = Int32.ofNat cs.length) : (z >>> (cd &&& 31)) = nn ∧ nar .byte cd = cd := by
  rcases h with ⟨rfl, rfl, -⟩ | ⟨rfl, rfl, -⟩
  · exact ⟨(own_num3 ⟨_, hn⟩).1.trans en.symm, by decide⟩
  · exact ⟨(own_num3 ⟨_, hn⟩).2.trans en.symm, by decide⟩
theorem own_at (K : Nat) {i z cz : Int32} {cs : List Int32} (hn : cs.length < 5) (hi : i = Int32.ofNat K) (hg : cs[K]? = some cz) : ¬ i < 0 ∧ i < Int32.ofNat cs.length ∧ i.toNatClampNeg = K := by
  subst hi
  have hk := own_klt hg
  exact own_num1 ⟨_, hn⟩ ⟨K, by omega⟩ hk
theorem own_sL (K : Nat) {cd z i cz : Int32} {vs : List Value} {cs : List Int32} (h : cd = 0 ∧ z = Int32.ofNat cs.length ∧ vs = cs.map own_lb ∧ ∀ c ∈ cs, ¬ (255 : Int32) < c) (hn : cs.length < 5) (hu : ∀ c ∈ cs, own_u16 c) (hi : i = Int32.ofNat K) (hg : cs[K]? = some cz) : ¬ i < 0 ∧ i < z ∧ vs.getD i.toNatClampNeg (.int 0) = .int ((cz.toInt8.toInt32).toInt8.toInt32) ∧ nar .char ((((cz.toInt8.toInt32).toInt8.toInt32) &&& (255 : Int32)).toUInt32.toUInt16.toUInt32.toInt32) = cz := by
  obtain ⟨rfl, rfl, rfl, hl⟩ := h
  obtain ⟨h1, h2, h3⟩ := own_at K (z := 0) hn hi hg
  refine ⟨h1, h2, ?_, own_lc (hu _ (own_mem hg)) (hl _ (own_mem hg))⟩
  rw [h3]
  exact own_lbg hg
theorem own_sW (K : Nat) {z i cz : Int32} {vs : List Value} {cs : List Int32} (hz : z = Int32.ofNat (2 * cs.length)) (hv : vs = own_wb cs) (hn : cs.length < 5) (hu : ∀ c ∈ cs, own_u16 c) (hi : i = Int32.ofNat K) (hg : cs[K]? = some cz) : ¬ i < 0 ∧ i < (z >>> ((1 : Int32) &&& 31)) ∧ (¬ (i <<< ((1 : Int32) &&& 31)) < 0 ∧ (i <<< ((1 : Int32) &&& 31)) < z) ∧ vs.getD (i <<< ((1 : Int32) &&& 31)).toNatClampNeg (.int 0) = .int (own_hb cz) ∧ (¬ ((i <<< ((1 : Int32) &&& 31)) + (1 : Int32)) < 0 ∧ ((i <<< ((1 : Int32) &&& 31)) + (1 : Int32)) < z) ∧ vs.getD ((i <<< ((1 : Int32) &&& 31)) + (1 : Int32)).toNatClampNeg (.int 0) = .int (own_ob cz) ∧ nar .char (((((own_hb cz) &&& (255 : Int32)) <<< ((0 : Int32) &&& 31)) ||| (((own_ob cz) &&& (255 : Int32)) <<< ((8 : Int32) &&& 31))).toUInt32.toUInt16.toUInt32.toInt32) = cz := by
  subst hz hv hi
  have hk := own_klt hg
  have h0 := own_num1 ⟨_, hn⟩ ⟨K, by omega⟩ hk
  have h1 := own_num2 ⟨_, hn⟩ ⟨K, by omega⟩ hk
  have h2 := own_wbg (d := .int 0) hg
  refine ⟨h0.1, h1.1, h1.2.1, ?_, h1.2.2.2.1, ?_, own_gc (hu _ (own_mem hg)) rfl rfl⟩
  · rw [h1.2.2.1]
    exact h2.1
  · rw [h1.2.2.2.2]
    exact h2.2
theorem own_fne {j : Int32} {cs : List Int32} (hn : cs.length < 5) (h : own_first j cs) : ¬ j = Int32.ofNat cs.length := by
  obtain ⟨K, c, rfl, hg, -⟩ := h
  have hk := own_klt hg
  exact own_num4 ⟨_, hn⟩ ⟨K, by omega⟩ hk
theorem d0_0 : decode jdk_52_method_5_code 0 = .ok (.getstatic 44, 3) := by decide +kernel
theorem d0_3 : decode jdk_52_method_5_code 3 = .ok (.ifCond .ne 25, 3) := by decide +kernel
theorem d0_28 : decode jdk_52_method_5_code 28 = .ok (.iload_n 1, 1) := by decide +kernel
theorem d0_29 : decode jdk_52_method_5_code 29 = .ok (.iconst 1, 1) := by decide +kernel
theorem d0_30 : decode jdk_52_method_5_code 30 = .ok (.ishl, 1) := by decide +kernel
theorem d0_31 : decode jdk_52_method_5_code 31 = .ok (.istore_n 1, 1) := by decide +kernel
theorem d0_32 : decode jdk_52_method_5_code 32 = .ok (.aload_n 0, 1) := by decide +kernel
theorem d0_33 : decode jdk_52_method_5_code 33 = .ok (.iload_n 1, 1) := by decide +kernel
theorem d0_34 : decode jdk_52_method_5_code 34 = .ok (.iinc 1 1, 3) := by decide +kernel
theorem d0_37 : decode jdk_52_method_5_code 37 = .ok (.baload, 1) := by decide +kernel
theorem d0_38 : decode jdk_52_method_5_code 38 = .ok (.sipush 255, 3) := by decide +kernel
theorem d0_41 : decode jdk_52_method_5_code 41 = .ok (.iand, 1) := by decide +kernel
theorem d0_42 : decode jdk_52_method_5_code 42 = .ok (.getstatic 59, 3) := by decide +kernel
theorem d0_45 : decode jdk_52_method_5_code 45 = .ok (.ishl, 1) := by decide +kernel
theorem d0_46 : decode jdk_52_method_5_code 46 = .ok (.aload_n 0, 1) := by decide +kernel
theorem d0_47 : decode jdk_52_method_5_code 47 = .ok (.iload_n 1, 1) := by decide +kernel
theorem d0_48 : decode jdk_52_method_5_code 48 = .ok (.baload, 1) := by decide +kernel
theorem d0_49 : decode jdk_52_method_5_code 49 = .ok (.sipush 255, 3) := by decide +kernel
theorem d0_52 : decode jdk_52_method_5_code 52 = .ok (.iand, 1) := by decide +kernel
theorem d0_53 : decode jdk_52_method_5_code 53 = .ok (.getstatic 63, 3) := by decide +kernel
theorem d0_56 : decode jdk_52_method_5_code 56 = .ok (.ishl, 1) := by decide +kernel
theorem d0_57 : decode jdk_52_method_5_code 57 = .ok (.ior, 1) := by decide +kernel
theorem d0_58 : decode jdk_52_method_5_code 58 = .ok (.i2c, 1) := by decide +kernel
theorem d0_59 : decode jdk_52_method_5_code 59 = .ok (.ireturn, 1) := by decide +kernel
def Qgch (Z : State) (G1 : Int32) (fm : Value) (b : Addr) (kb : ClassId) (z : Int32) (vs : List Value) (i : Int32) (cs : List Int32) (K : Nat) (cz : Int32) (h0 : Heap) (n0 : Nat) (v : Option Value) (h : Heap) (L : List Loc) : Prop := v = some (.int cz) ∧ Fr n0 L ∧ h = h0
theorem ef_jdk_52_method_5_code_RI (m : MethodId) (x0 : Addr) (x1 : Int32) : entryFrame m #[.ref x0, .int x1] 2 = mkF m 0 #[.val (.ref x0), .val (.int x1)] [] := by first | (simp [entryFrame, mkF, argsToLocals, Value.category]; done) | rfl
abbrev y0 : MethodName := ⟨"java/lang/StringUTF16", "getChar", "([BI)C"⟩
theorem pn_java_lang_StringUTF16 : plainName "java/lang/StringUTF16" = true := by first | (simp [plainName, overriddenIn]; done) | decide +kernel
theorem rmgch (l : Launch) (Z : State) (a0 : Array Value) (G1 : Int32) (fm : Value) (hG : Glob Z a0 G1 fm) (ws : List Jvm.Cond) (b : Addr) (kb : ClassId) (z : Int32) (vs : List Value) (i : Int32) (cs : List Int32) (K : Nat) (cz : Int32) (h0 : Heap) (n0 : Nat) (Z0 : n0 ≤ h0.size) (X00 : Old Z n0 h0) (V_b : Arv Z h0 b kb .byte z vs (.int 0)) (hz : z = Int32.ofNat (2 * cs.length)) (hv : vs = own_wb cs) (hn : cs.length < 5) (hu : ∀ c ∈ cs, own_u16 c) (hi : i = Int32.ofNat K) (hg : cs[K]? = some cz) :
    Met l Z h0 y0 jdk_52_method_5_code 2 (some .char) ws (Room.mk 0 0 0 0) #[.ref b, .int i] (Qgch Z G1 fm b kb z vs i cs K cz h0 n0) := by
  obtain ⟨hw, O_cs, P_cs, O_as, O_hi, O_lo, O_fm, R_fm⟩ := id hG
  have W := @own_W _ _ hw
  refine own_go "java/lang/StringUTF16" rfl (plainFor_of_name pn_java_lang_StringUTF16) ?_
  intro p e s m below meth c s₁ Bd hx hby hml hown hnm X0 e0 hZ
  have hB := @hb _ _ hby
  have N0 := Fr.nil n0
  have hsw := own_sW K hz hv hn hu hi hg
  obtain ⟨T1, X1, e1, st1⟩ := getS2 X0 hx hZ hown (host := "") (Or.inl (W 97 rfl)) Via.refl e0 (O_as.ext X00.2) (g := (mkF m 0 #[.val (.ref b), .val (.int i)] [])) rfl (hB d0_0)
  obtain ⟨clq2, Arq2, qaq2, Sq2, Nq2, Hq2, Gq2⟩ := id V_b
  have hinq2 := inb_of (j := (i <<< ((1 : Int32) &&& 31))) Sq2 hsw.2.2.1
  have hatq2 := Has.at (v := (.int (own_hb cz))) Hq2 hinq2 hsw.2.2.2.1
  obtain ⟨T3, X3, e3, st3⟩ := getS2 X1 hx hZ hown (host := "") (Or.inl (W 98 rfl)) Via.refl e1 (O_hi.ext X00.2) (g := (mkF m 42 #[.val (.ref b), .val (.int ((i <<< ((1 : Int32) &&& 31)) + (1 : Int32)))] [(.int ((own_hb cz) &&& (255 : Int32)))])) rfl (hB d0_42)
  obtain ⟨clq4, Arq4, qaq4, Sq4, Nq4, Hq4, Gq4⟩ := id V_b
  have hinq4 := inb_of (j := ((i <<< ((1 : Int32) &&& 31)) + (1 : Int32))) Sq4 hsw.2.2.2.2.1
  have hatq4 := Has.at (v := (.int (own_ob cz))) Hq4 hinq4 hsw.2.2.2.2.2.1
  obtain ⟨T5, X5, e5, st5⟩ := getS2 X3 hx hZ hown (host := "") (Or.inl (W 99 rfl)) Via.refl e3 (O_lo.ext X00.2) (g := (mkF m 53 #[.val (.ref b), .val (.int ((i <<< ((1 : Int32) &&& 31)) + (1 : Int32)))] [(.int ((own_ob cz) &&& (255 : Int32))), (.int (((own_hb cz) &&& (255 : Int32)) <<< ((0 : Int32) &&& 31)))])) rfl (hB d0_53)
  obtain ⟨fs, hr, hrun, hended, hW, hsame⟩ := X5.leave (v := some (.int (nar .char (((((own_hb cz) &&& (255 : Int32)) <<< ((0 : Int32) &&& 31)) ||| (((own_ob cz) &&& (255 : Int32)) <<< ((8 : Int32) &&& 31))).toUInt32.toUInt16.toUInt32.toInt32)))) (fun h => by rw [Bd.returns] at h; cases h)
  refine ⟨_, _, castTop (ef_jdk_52_method_5_code_RI m b i) ?_, hrun, hended, _, _, rfl, ?_, ⟨_, rfl⟩, hW, hsame.mono (own_ble rfl) (own_ble rfl)⟩
  · show Steps _ _ _ (s₁.setTop (mkF m 0 #[.val (.ref b), .val (.int i)] [])) _
    refine st1 _ ?_
    show Steps _ _ _ (T1.setTop (mkF m 3 #[.val (.ref b), .val (.int i)] [.int 1])) _
    refine XS.ifYes X1.here hx rfl (pc0 := 3) (pc' := 28) rfl (hB d0_3) rfl ((if0 _ _).trans (feq (by decide : ¬ ((1 : Int32) = (0 : Int32)))).2) (by decide) (by decide) ?_
    refine XS.iloadN X1.here hx rfl (hB d0_28) rfl ?_
    refine XS.iconst X1.here hx rfl (hB d0_29) ?_
    refine XS.ishl X1.here hx rfl (hB d0_30) rfl ?_
    refine XS.istoreN X1.here hx rfl (hB d0_31) rfl (l' := #[.val (.ref b), .val (.int (i <<< ((1 : Int32) &&& 31)))]) rfl ?_
    refine XS.aloadN X1.here hx rfl (hB d0_32) rfl rfl ?_
    refine XS.iloadN X1.here hx rfl (hB d0_33) rfl ?_
    refine XS.iinc X1.here hx rfl (hB d0_34) rfl (l' := #[.val (.ref b), .val (.int ((i <<< ((1 : Int32) &&& 31)) + (1 : Int32)))]) rfl ?_
    refine X1.baloadBytes hx (j := (i <<< ((1 : Int32) &&& 31))) (v := (.int (own_hb cz))) (own_cell e1 Arq2.1) (State.isArrayOf_alike hZ.alike Arq2.2.1) Arq2.2.2 hinq2 hatq2 (g := (mkF m 37 #[.val (.ref b), .val (.int ((i <<< ((1 : Int32) &&& 31)) + (1 : Int32)))] [(.int (i <<< ((1 : Int32) &&& 31))), .ref b])) rfl rfl (hB d0_37) _ ?_
    refine XS.sipush X1.here hx rfl (hB d0_38) ?_
    refine XS.iand X1.here hx rfl (hB d0_41) rfl ?_
    refine st3 _ ?_
    show Steps _ _ _ (T3.setTop (mkF m 45 #[.val (.ref b), .val (.int ((i <<< ((1 : Int32) &&& 31)) + (1 : Int32)))] [.int 0, (.int ((own_hb cz) &&& (255 : Int32)))])) _
    refine XS.ishl X3.here hx rfl (hB d0_45) rfl ?_
    refine XS.aloadN X3.here hx rfl (hB d0_46) rfl rfl ?_
    refine XS.iloadN X3.here hx rfl (hB d0_47) rfl ?_
    refine X3.baloadBytes hx (j := ((i <<< ((1 : Int32) &&& 31)) + (1 : Int32))) (v := (.int (own_ob cz))) (own_cell e3 Arq4.1) (State.isArrayOf_alike hZ.alike Arq4.2.1) Arq4.2.2 hinq4 hatq4 (g := (mkF m 48 #[.val (.ref b), .val (.int ((i <<< ((1 : Int32) &&& 31)) + (1 : Int32)))] [(.int ((i <<< ((1 : Int32) &&& 31)) + (1 : Int32))), .ref b, (.int (((own_hb cz) &&& (255 : Int32)) <<< ((0 : Int32) &&& 31)))])) rfl rfl (hB d0_48) _ ?_
    refine XS.sipush X3.here hx rfl (hB d0_49) ?_
    refine XS.iand X3.here hx rfl (hB d0_52) rfl ?_
    refine st5 _ ?_
    show Steps _ _ _ (T5.setTop (mkF m 56 #[.val (.ref b), .val (.int ((i <<< ((1 : Int32) &&& 31)) + (1 : Int32)))] [.int 8, (.int ((own_ob cz) &&& (255 : Int32))), (.int (((own_hb cz) &&& (255 : Int32)) <<< ((0 : Int32) &&& 31)))])) _
    refine XS.ishl X5.here hx rfl (hB d0_56) rfl ?_
    refine XS.ior X5.here hx rfl (hB d0_57) rfl ?_
    refine XS.i2c X5.here hx rfl (hB d0_58) rfl ?_
    exact retN X5 hx (t := .char) Bd.returns (by simp) (hB d0_59) hr
  · show Qgch Z G1 fm b kb z vs i cs K cz h0 n0 _ T5.heap _
    rw [e5]
    exact ⟨(by rw [hsw.2.2.2.2.2.2]), N0, rfl⟩
theorem d1_0 : decode jdk_52_method_4_code 0 = .ok (.getstatic 44, 3) := by decide +kernel
theorem d1_3 : decode jdk_52_method_4_code 3 = .ok (.ifCond .ne 25, 3) := by decide +kernel
theorem d1_28 : decode jdk_52_method_4_code 28 = .ok (.iload_n 1, 1) := by decide +kernel
theorem d1_29 : decode jdk_52_method_4_code 29 = .ok (.iconst 1, 1) := by decide +kernel
theorem d1_30 : decode jdk_52_method_4_code 30 = .ok (.ishl, 1) := by decide +kernel
theorem d1_31 : decode jdk_52_method_4_code 31 = .ok (.istore_n 1, 1) := by decide +kernel
theorem d1_32 : decode jdk_52_method_4_code 32 = .ok (.aload_n 0, 1) := by decide +kernel
theorem d1_33 : decode jdk_52_method_4_code 33 = .ok (.iload_n 1, 1) := by decide +kernel
theorem d1_34 : decode jdk_52_method_4_code 34 = .ok (.iinc 1 1, 3) := by decide +kernel
theorem d1_37 : decode jdk_52_method_4_code 37 = .ok (.iload_n 2, 1) := by decide +kernel
theorem d1_38 : decode jdk_52_method_4_code 38 = .ok (.getstatic 59, 3) := by decide +kernel
theorem d1_41 : decode jdk_52_method_4_code 41 = .ok (.ishr, 1) := by decide +kernel
theorem d1_42 : decode jdk_52_method_4_code 42 = .ok (.i2b, 1) := by decide +kernel
theorem d1_43 : decode jdk_52_method_4_code 43 = .ok (.bastore, 1) := by decide +kernel
theorem d1_44 : decode jdk_52_method_4_code 44 = .ok (.aload_n 0, 1) := by decide +kernel
theorem d1_45 : decode jdk_52_method_4_code 45 = .ok (.iload_n 1, 1) := by decide +kernel
theorem d1_46 : decode jdk_52_method_4_code 46 = .ok (.iload_n 2, 1) := by decide +kernel
theorem d1_47 : decode jdk_52_method_4_code 47 = .ok (.getstatic 63, 3) := by decide +kernel
theorem d1_50 : decode jdk_52_method_4_code 50 = .ok (.ishr, 1) := by decide +kernel
theorem d1_51 : decode jdk_52_method_4_code 51 = .ok (.i2b, 1) := by decide +kernel
theorem d1_52 : decode jdk_52_method_4_code 52 = .ok (.bastore, 1) := by decide +kernel
theorem d1_53 : decode jdk_52_method_4_code 53 = .ok (.return_, 1) := by decide +kernel
def Qput (Z : State) (G1 : Int32) (fm : Value) (b : Addr) (kb : ClassId) (z : Int32) (vs : List Value) (i : Int32) (K : Nat) (cz : Int32) (h0 : Heap) (n0 : Nat) (v : Option Value) (h : Heap) (L : List Loc) : Prop := v = none ∧ Fr n0 L ∧ Keep h0 h [b] ∧ Arv Z h b kb .byte z ((vs.set K (.int (((cz >>> ((0 : Int32) &&& 31)).toInt8.toInt32).toInt8.toInt32))).set (K + 1) (.int (((cz >>> ((8 : Int32) &&& 31)).toInt8.toInt32).toInt8.toInt32))) (.int 0)
theorem ef_jdk_52_method_4_code_RII (m : MethodId) (x0 : Addr) (x1 : Int32) (x2 : Int32) : entryFrame m #[.ref x0, .int x1, .int x2] 3 = mkF m 0 #[.val (.ref x0), .val (.int x1), .val (.int x2)] [] := by first | (simp [entryFrame, mkF, argsToLocals, Value.category]; done) | rfl
abbrev y1 : MethodName := ⟨"java/lang/StringUTF16", "putChar", "([BII)V"⟩
theorem rmput (l : Launch) (Z : State) (a0 : Array Value) (G1 : Int32) (fm : Value) (hG : Glob Z a0 G1 fm) (ws : List Jvm.Cond) (b : Addr) (kb : ClassId) (z : Int32) (vs : List Value) (i : Int32) (K : Nat) (cz : Int32) (h0 : Heap) (n0 : Nat) (Z0 : n0 ≤ h0.size) (X00 : Old Z n0 h0) (V_b : Arv Z h0 b kb .byte z vs (.int 0)) (g_b : n0 ≤ b) (h1 : ¬ (i <<< ((1 : Int32) &&& 31)) < 0 ∧ (i <<< ((1 : Int32) &&& 31)) < z) (k1 : (i <<< ((1 : Int32) &&& 31)).toNatClampNeg = K) (l1 : K < vs.length) (h2 : ¬ ((i <<< ((1 : Int32) &&& 31)) + (1 : Int32)) < 0 ∧ ((i <<< ((1 : Int32) &&& 31)) + (1 : Int32)) < z) (k2 : ((i <<< ((1 : Int32) &&& 31)) + (1 : Int32)).toNatClampNeg = (K + 1)) (l2 : (K + 1) < vs.length) :
    Met l Z h0 y1 jdk_52_method_4_code 3 none ws (Room.mk 0 0 0 0) #[.ref b, .int i, .int cz] (Qput Z G1 fm b kb z vs i K cz h0 n0) := by
  obtain ⟨hw, O_cs, P_cs, O_as, O_hi, O_lo, O_fm, R_fm⟩ := id hG
  have W := @own_W _ _ hw
  refine own_go "java/lang/StringUTF16" rfl (plainFor_of_name pn_java_lang_StringUTF16) ?_
  intro p e s m below meth c s₁ Bd hx hby hml hown hnm X0 e0 hZ
  have hB := @hb _ _ hby
  have N0 := Fr.nil n0
  obtain ⟨T6, X6, e6, st6⟩ := getS2 X0 hx hZ hown (host := "") (Or.inl (W 97 rfl)) Via.refl e0 (O_as.ext X00.2) (g := (mkF m 0 #[.val (.ref b), .val (.int i), .val (.int cz)] [])) rfl (hB d1_0)
  obtain ⟨T7, X7, e7, st7⟩ := getS2 X6 hx hZ hown (host := "") (Or.inl (W 98 rfl)) Via.refl e6 (O_hi.ext X00.2) (g := (mkF m 38 #[.val (.ref b), .val (.int ((i <<< ((1 : Int32) &&& 31)) + (1 : Int32))), .val (.int cz)] [.int cz, (.int (i <<< ((1 : Int32) &&& 31))), .ref b])) rfl (hB d1_38)
  obtain ⟨clq8, Arq8, qaq8, Sq8, Nq8, Hq8, Gq8⟩ := id V_b
  have hinq8 := inb_of (j := (i <<< ((1 : Int32) &&& 31))) Sq8 h1
  obtain ⟨T9, h9, X9, e9, W9, st9⟩ := stB X7 hx hZ e7 Arq8 (j := (i <<< ((1 : Int32) &&& 31))) hinq8 (g := (mkF m 43 #[.val (.ref b), .val (.int ((i <<< ((1 : Int32) &&& 31)) + (1 : Int32))), .val (.int cz)] [(.int ((cz >>> ((0 : Int32) &&& 31)).toInt8.toInt32)), (.int (i <<< ((1 : Int32) &&& 31))), .ref b])) rfl rfl (hB d1_43)
  have V9 : Arv Z h9 b kb .byte z (vs.set K (.int (((cz >>> ((0 : Int32) &&& 31)).toInt8.toInt32).toInt8.toInt32))) (.int 0) := Arv.set Arq8 qaq8 Sq8 Nq8 Hq8 Gq8 (fits_nar_byte _) W9 K k1 l1
  have Z10 : n0 ≤ h9.size := Nat.le_trans Z0 (Keep.of_wr W9).1
  have K0_10 : Keep h0 h9 [b] := (Keep.refl h0 [b]).wr W9 (Or.inl (List.mem_of_getElem? (i := 0) rfl))
  have O10 : Old Z n0 h9 := X00.wr W9 g_b
  have N9 := Fr.snoc X9 N0 g_b
  obtain ⟨T11, X11, e11, st11⟩ := getS2 X9 hx hZ hown (host := "") (Or.inl (W 99 rfl)) Via.refl e9 (O_lo.ext O10.2) (g := (mkF m 47 #[.val (.ref b), .val (.int ((i <<< ((1 : Int32) &&& 31)) + (1 : Int32))), .val (.int cz)] [.int cz, (.int ((i <<< ((1 : Int32) &&& 31)) + (1 : Int32))), .ref b])) rfl (hB d1_47)
  obtain ⟨clq12, Arq12, qaq12, Sq12, Nq12, Hq12, Gq12⟩ := id V9
  have hinq12 := inb_of (j := ((i <<< ((1 : Int32) &&& 31)) + (1 : Int32))) Sq12 h2
  obtain ⟨T13, h13, X13, e13, W13, st13⟩ := stB X11 hx hZ e11 Arq12 (j := ((i <<< ((1 : Int32) &&& 31)) + (1 : Int32))) hinq12 (g := (mkF m 52 #[.val (.ref b), .val (.int ((i <<< ((1 : Int32) &&& 31)) + (1 : Int32))), .val (.int cz)] [(.int ((cz >>> ((8 : Int32) &&& 31)).toInt8.toInt32)), (.int ((i <<< ((1 : Int32) &&& 31)) + (1 : Int32))), .ref b])) rfl rfl (hB d1_52)
  have V13 : Arv Z h13 b kb .byte z ((vs.set K (.int (((cz >>> ((0 : Int32) &&& 31)).toInt8.toInt32).toInt8.toInt32))).set (K + 1) (.int (((cz >>> ((8 : Int32) &&& 31)).toInt8.toInt32).toInt8.toInt32))) (.int 0) := Arv.set Arq12 qaq12 Sq12 Nq12 Hq12 Gq12 (fits_nar_byte _) W13 (K + 1) k2 (by rw [List.length_set]; exact l2)
  have Z14 : n0 ≤ h13.size := Nat.le_trans Z10 (Keep.of_wr W13).1
  have K0_14 : Keep h0 h13 [b] := K0_10.wr W13 (Or.inl (List.mem_of_getElem? (i := 0) rfl))
  have O14 : Old Z n0 h13 := O10.wr W13 g_b
  have N13 := Fr.snoc X13 N9 g_b
  obtain ⟨fs, hr, hrun, hended, hW, hsame⟩ := X13.leave (v := none) (fun _ => rfl)
  refine ⟨_, _, castTop (ef_jdk_52_method_4_code_RII m b i cz) ?_, hrun, hended, _, _, rfl, ?_, ⟨_, rfl⟩, hW, hsame.mono (own_ble rfl) (own_ble rfl)⟩
  · show Steps _ _ _ (s₁.setTop (mkF m 0 #[.val (.ref b), .val (.int i), .val (.int cz)] [])) _
    refine st6 _ ?_
    show Steps _ _ _ (T6.setTop (mkF m 3 #[.val (.ref b), .val (.int i), .val (.int cz)] [.int 1])) _
    refine XS.ifYes X6.here hx rfl (pc0 := 3) (pc' := 28) rfl (hB d1_3) rfl ((if0 _ _).trans (feq (by decide : ¬ ((1 : Int32) = (0 : Int32)))).2) (by decide) (by decide) ?_
    refine XS.iloadN X6.here hx rfl (hB d1_28) rfl ?_
    refine XS.iconst X6.here hx rfl (hB d1_29) ?_
    refine XS.ishl X6.here hx rfl (hB d1_30) rfl ?_
    refine XS.istoreN X6.here hx rfl (hB d1_31) rfl (l' := #[.val (.ref b), .val (.int (i <<< ((1 : Int32) &&& 31))), .val (.int cz)]) rfl ?_
    refine XS.aloadN X6.here hx rfl (hB d1_32) rfl rfl ?_
    refine XS.iloadN X6.here hx rfl (hB d1_33) rfl ?_
    refine XS.iinc X6.here hx rfl (hB d1_34) rfl (l' := #[.val (.ref b), .val (.int ((i <<< ((1 : Int32) &&& 31)) + (1 : Int32))), .val (.int cz)]) rfl ?_
    refine XS.iloadN X6.here hx rfl (hB d1_37) rfl ?_
    refine st7 _ ?_
    show Steps _ _ _ (T7.setTop (mkF m 41 #[.val (.ref b), .val (.int ((i <<< ((1 : Int32) &&& 31)) + (1 : Int32))), .val (.int cz)] [.int 0, .int cz, (.int (i <<< ((1 : Int32) &&& 31))), .ref b])) _
    refine XS.ishr X7.here hx rfl (hB d1_41) rfl ?_
    refine XS.i2b X7.here hx rfl (hB d1_42) rfl ?_
    refine st9 _ ?_
    show Steps _ _ _ (T9.setTop (mkF m 44 #[.val (.ref b), .val (.int ((i <<< ((1 : Int32) &&& 31)) + (1 : Int32))), .val (.int cz)] [])) _
    refine XS.aloadN X9.here hx rfl (hB d1_44) rfl rfl ?_
    refine XS.iloadN X9.here hx rfl (hB d1_45) rfl ?_
    refine XS.iloadN X9.here hx rfl (hB d1_46) rfl ?_
    refine st11 _ ?_
    show Steps _ _ _ (T11.setTop (mkF m 50 #[.val (.ref b), .val (.int ((i <<< ((1 : Int32) &&& 31)) + (1 : Int32))), .val (.int cz)] [.int 8, .int cz, (.int ((i <<< ((1 : Int32) &&& 31)) + (1 : Int32))), .ref b])) _
    refine XS.ishr X11.here hx rfl (hB d1_50) rfl ?_
    refine XS.i2b X11.here hx rfl (hB d1_51) rfl ?_
    refine st13 _ ?_
    show Steps _ _ _ (T13.setTop (mkF m 53 #[.val (.ref b), .val (.int ((i <<< ((1 : Int32) &&& 31)) + (1 : Int32))), .val (.int cz)] [])) _
    exact X13.returnOut hx Bd.returns (hB d1_53) hr
  · show Qput Z G1 fm b kb z vs i K cz h0 n0 _ T13.heap _
    rw [e13]
    exact ⟨rfl, N13, K0_14, V13⟩
theorem d2_0 : decode jdk_52_method_6_code 0 = .ok (.aload_n 0, 1) := by decide +kernel
theorem d2_1 : decode jdk_52_method_6_code 1 = .ok (.arraylength, 1) := by decide +kernel
theorem d2_2 : decode jdk_52_method_6_code 2 = .ok (.iconst 1, 1) := by decide +kernel
theorem d2_3 : decode jdk_52_method_6_code 3 = .ok (.ishr, 1) := by decide +kernel
theorem d2_4 : decode jdk_52_method_6_code 4 = .ok (.ireturn, 1) := by decide +kernel
def Qulen (Z : State) (G1 : Int32) (fm : Value) (b : Addr) (kb : ClassId) (z : Int32) (vs : List Value) (h0 : Heap) (n0 : Nat) (v : Option Value) (h : Heap) (L : List Loc) : Prop := v = some (.int (z >>> ((1 : Int32) &&& 31))) ∧ Fr n0 L ∧ h = h0
theorem ef_jdk_52_method_6_code_R (m : MethodId) (x0 : Addr) : entryFrame m #[.ref x0] 1 = mkF m 0 #[.val (.ref x0)] [] := by first | (simp [entryFrame, mkF, argsToLocals, Value.category]; done) | rfl
abbrev y2 : MethodName := ⟨"java/lang/StringUTF16", "length", "([B)I"⟩
theorem rmulen (l : Launch) (Z : State) (a0 : Array Value) (G1 : Int32) (fm : Value) (hG : Glob Z a0 G1 fm) (ws : List Jvm.Cond) (b : Addr) (kb : ClassId) (z : Int32) (vs : List Value) (h0 : Heap) (n0 : Nat) (Z0 : n0 ≤ h0.size) (X00 : Old Z n0 h0) (V_b : Arv Z h0 b kb .byte z vs (.int 0)) :
    Met l Z h0 y2 jdk_52_method_6_code 1 (some .int) ws (Room.mk 0 0 0 0) #[.ref b] (Qulen Z G1 fm b kb z vs h0 n0) := by
  obtain ⟨hw, O_cs, P_cs, O_as, O_hi, O_lo, O_fm, R_fm⟩ := id hG
  have W := @own_W _ _ hw
  refine own_go "java/lang/StringUTF16" rfl (plainFor_of_name pn_java_lang_StringUTF16) ?_
  intro p e s m below meth c s₁ Bd hx hby hml hown hnm X0 e0 hZ
  have hB := @hb _ _ hby
  have N0 := Fr.nil n0
  obtain ⟨clq15, Arq15, qaq15, Sq15, Nq15, Hq15, Gq15⟩ := id V_b
  obtain ⟨fs, hr, hrun, hended, hW, hsame⟩ := X0.leave (v := some (.int (z >>> ((1 : Int32) &&& 31)))) (fun h => by rw [Bd.returns] at h; cases h)
  refine ⟨_, _, castTop (ef_jdk_52_method_6_code_R m b) ?_, hrun, hended, _, _, rfl, ?_, ⟨_, rfl⟩, hW, hsame.mono (own_ble rfl) (own_ble rfl)⟩
  · show Steps _ _ _ (s₁.setTop (mkF m 0 #[.val (.ref b)] [])) _
    refine XS.aloadN X0.here hx rfl (hB d2_0) rfl rfl ?_
    refine X0.arraylength hx (own_cell e0 Arq15.1) (State.isArrayOf_alike hZ.alike Arq15.2.1) (g := (mkF m 1 #[.val (.ref b)] [.ref b])) rfl rfl (hB d2_1) _ ?_
    rw [len_of Sq15 Nq15]
    refine XS.iconst X0.here hx rfl (hB d2_2) ?_
    refine XS.ishr X0.here hx rfl (hB d2_3) rfl ?_
    exact retOut X0 hx Bd.returns rfl (Or.inl ⟨rfl, Or.inl rfl, _, rfl⟩) (hB d2_4) hr
  · show Qulen Z G1 fm b kb z vs h0 n0 _ s₁.heap _
    rw [e0]
    exact ⟨rfl, N0, rfl⟩
theorem d3_0 : decode jdk_41_method_11_code 0 = .ok (.iload_n 0, 1) := by decide +kernel
theorem d3_1 : decode jdk_41_method_11_code 1 = .ok (.ifCond .lt 8, 3) := by decide +kernel
theorem d3_4 : decode jdk_41_method_11_code 4 = .ok (.iload_n 0, 1) := by decide +kernel
theorem d3_5 : decode jdk_41_method_11_code 5 = .ok (.iload_n 1, 1) := by decide +kernel
theorem d3_6 : decode jdk_41_method_11_code 6 = .ok (.if_icmp .lt 10, 3) := by decide +kernel
theorem d3_16 : decode jdk_41_method_11_code 16 = .ok (.iload_n 0, 1) := by decide +kernel
theorem d3_17 : decode jdk_41_method_11_code 17 = .ok (.ireturn, 1) := by decide +kernel
def Qpci (Z : State) (G1 : Int32) (fm : Value) (i : Int32) (q : Int32) (u : Value) (h0 : Heap) (n0 : Nat) (v : Option Value) (h : Heap) (L : List Loc) : Prop := v = some (.int i) ∧ Fr n0 L ∧ h = h0
theorem ef_jdk_41_method_11_code_IIV (m : MethodId) (x0 : Int32) (x1 : Int32) (x2 : Value) (r2 : x2.isRef = true) : entryFrame m #[.int x0, .int x1, x2] 3 = mkF m 0 #[.val (.int x0), .val (.int x1), .val x2] [] := by
  simp [entryFrame, mkF, argsToLocals, own_cr, own_ci, own_cj, own_cn, own_cat r2]
abbrev y3 : MethodName := ⟨"jdk/internal/util/Preconditions", "checkIndex", "(IILjava/util/function/BiFunction;)I"⟩
theorem pn_jdk_internal_util_Preconditions : plainName "jdk/internal/util/Preconditions" = true := by first | (simp [plainName, overriddenIn]; done) | decide +kernel
theorem rmpci (l : Launch) (Z : State) (a0 : Array Value) (G1 : Int32) (fm : Value) (hG : Glob Z a0 G1 fm) (ws : List Jvm.Cond) (i : Int32) (q : Int32) (u : Value) (h0 : Heap) (n0 : Nat) (Z0 : n0 ≤ h0.size) (X00 : Old Z n0 h0) (h1 : ¬ i < 0) (h2 : i < q) (ru : u.isRef = true) :
    Met l Z h0 y3 jdk_41_method_11_code 3 (some .int) ws (Room.mk 0 0 0 0) #[.int i, .int q, u] (Qpci Z G1 fm i q u h0 n0) := by
  obtain ⟨hw, O_cs, P_cs, O_as, O_hi, O_lo, O_fm, R_fm⟩ := id hG
  have W := @own_W _ _ hw
  refine own_go "jdk/internal/util/Preconditions" rfl (plainFor_of_name pn_jdk_internal_util_Preconditions) ?_
  intro p e s m below meth c s₁ Bd hx hby hml hown hnm X0 e0 hZ
  have hB := @hb _ _ hby
  have N0 := Fr.nil n0
  obtain ⟨fs, hr, hrun, hended, hW, hsame⟩ := X0.leave (v := some (.int i)) (fun h => by rw [Bd.returns] at h; cases h)
  refine ⟨_, _, castTop (ef_jdk_41_method_11_code_IIV m i q u ru) ?_, hrun, hended, _, _, rfl, ?_, ⟨_, rfl⟩, hW, hsame.mono (own_ble rfl) (own_ble rfl)⟩
  · show Steps _ _ _ (s₁.setTop (mkF m 0 #[.val (.int i), .val (.int q), .val u] [])) _
    refine XS.iloadN X0.here hx rfl (hB d3_0) rfl ?_
    refine XS.ifNo X0.here hx rfl (hB d3_1) rfl ((if0 _ _).trans (flt (h1 : ¬ (i < (0 : Int32)))).1) ?_
    refine XS.iloadN X0.here hx rfl (hB d3_4) rfl ?_
    refine XS.iloadN X0.here hx rfl (hB d3_5) rfl ?_
    refine XS.icmpYes X0.here hx rfl (pc0 := 6) (pc' := 16) rfl (hB d3_6) rfl (tlt (h2 : i < q)).1 (by decide) (by decide) ?_
    refine XS.iloadN X0.here hx rfl (hB d3_16) rfl ?_
    exact retOut X0 hx Bd.returns rfl (Or.inl ⟨rfl, Or.inl rfl, _, rfl⟩) (hB d3_17) hr
  · show Qpci Z G1 fm i q u h0 n0 _ s₁.heap _
    rw [e0]
    exact ⟨rfl, N0, rfl⟩
theorem d4_0 : decode jdk_42_method_155_code 0 = .ok (.iload_n 0, 1) := by decide +kernel
theorem d4_1 : decode jdk_42_method_155_code 1 = .ok (.iload_n 1, 1) := by decide +kernel
theorem d4_2 : decode jdk_42_method_155_code 2 = .ok (.getstatic 1053, 3) := by decide +kernel
theorem d4_5 : decode jdk_42_method_155_code 5 = .ok (.invokestatic 1059, 3) := by decide +kernel
theorem pd__IILjava_util_function_BiFunction__I : parseMethodDescriptor "(IILjava/util/function/BiFunction;)I" = some ⟨[.int, .int, (.object "java/util/function/BiFunction")], some .int⟩ := by decide +kernel
theorem d4_8 : decode jdk_42_method_155_code 8 = .ok (.pop, 1) := by decide +kernel
theorem d4_9 : decode jdk_42_method_155_code 9 = .ok (.return_, 1) := by decide +kernel
def Qsci (Z : State) (G1 : Int32) (fm : Value) (i : Int32) (q : Int32) (h0 : Heap) (n0 : Nat) (v : Option Value) (h : Heap) (L : List Loc) : Prop := v = none ∧ Fr n0 L ∧ h = h0
theorem ef_jdk_42_method_155_code_II (m : MethodId) (x0 : Int32) (x1 : Int32) : entryFrame m #[.int x0, .int x1] 2 = mkF m 0 #[.val (.int x0), .val (.int x1)] [] := by first | (simp [entryFrame, mkF, argsToLocals, Value.category]; done) | rfl
abbrev y4 : MethodName := ⟨"java/lang/String", "checkIndex", "(II)V"⟩
theorem pn_java_lang_String : plainName "java/lang/String" = true := by first | (simp [plainName, overriddenIn]; done) | decide +kernel
theorem rmsci (l : Launch) (Z : State) (a0 : Array Value) (G1 : Int32) (fm : Value) (hG : Glob Z a0 G1 fm) (ws : List Jvm.Cond) (i : Int32) (q : Int32) (h0 : Heap) (n0 : Nat) (Z0 : n0 ≤ h0.size) (X00 : Old Z n0 h0) (h1 : ¬ i < 0) (h2 : i < q) :
    Met l Z h0 y4 jdk_42_method_155_code 2 none ws (Room.mk 1 0 0 14) #[.int i, .int q] (Qsci Z G1 fm i q h0 n0) := by
  obtain ⟨hw, O_cs, P_cs, O_as, O_hi, O_lo, O_fm, R_fm⟩ := id hG
  have W := @own_W _ _ hw
  refine own_go "java/lang/String" rfl (plainFor_of_name pn_java_lang_String) ?_
  intro p e s m below meth c s₁ Bd hx hby hml hown hnm X0 e0 hZ
  have hB := @hb _ _ hby
  have N0 := Fr.nil n0
  obtain ⟨T16, X16, e16, st16⟩ := getS2 X0 hx hZ hown (host := "") (Or.inl (W 69 rfl)) Via.refl e0 (O_fm.ext X00.2) (g := (mkF m 2 #[.val (.int i), .val (.int q)] [.int q, .int i])) rfl (hB d4_2)
  -- pc 5: jdk/internal/util/Preconditions.checkIndex
  obtain ⟨_, _, ⟨T17, L17, k17, n17⟩, -, X17, ⟨Lc17, hQ17, l17, y17, z17⟩, st17⟩ := Jvm.LawKit.callS X16 hx (y := y3) hown (mvT hZ (W 71 rfl)) (mvT hZ (W 72 rfl)) (mvT hZ (W 70 rfl)) (mvT hZ (W 73 rfl)) (by decide) (backOf (W := 0) (rmpci l Z a0 G1 fm hG [] i q fm h0 n0 Z0 X00 (by first | assumption | decide | rfl) (by first | assumption | decide | rfl) R_fm) hZ (W 73 rfl) (W 70 rfl) (by decide) (by decide)) (g := (mkF m 5 #[.val (.int i), .val (.int q)] [fm, .int q, .int i])) rfl (by rw [hml]; rfl) (argsL := [.int i, .int q, fm]) (rest := []) (lenOf pd__IILjava_util_function_BiFunction__I rfl) rfl (by show 2 * 0 + _ ≤ _; exact Nat.le_of_eq rfl) (hB d4_5) (fun _ _ => ⟨rfl, e16, (by decide : 0 + 0 ≤ _), (by decide : 0 + 0 ≤ _)⟩)
  dsimp only [Pt.U, Pt.locs, Pt.cells, Pt.slots] at X17 l17 y17 z17 st17 hQ17
  subst l17 y17 z17
  obtain ⟨rfl, N17q, eq17⟩ := hQ17
  have N17 := Fr.app N0 N17q
  obtain ⟨fs, hr, hrun, hended, hW, hsame⟩ := X17.leave (v := none) (fun _ => rfl)
  refine ⟨_, _, castTop (ef_jdk_42_method_155_code_II m i q) ?_, hrun, hended, _, _, rfl, ?_, ⟨_, rfl⟩, hW, hsame.mono (own_ble rfl) (own_ble rfl)⟩
  · show Steps _ _ _ (s₁.setTop (mkF m 0 #[.val (.int i), .val (.int q)] [])) _
    refine XS.iloadN X0.here hx rfl (hB d4_0) rfl ?_
    refine XS.iloadN X0.here hx rfl (hB d4_1) rfl ?_
    refine st16 _ ?_
    show Steps _ _ _ (T16.setTop (mkF m 5 #[.val (.int i), .val (.int q)] [fm, .int q, .int i])) _
    refine st17 _ ?_
    show Steps _ _ _ (T17.setTop (mkF m 8 #[.val (.int i), .val (.int q)] [.int i])) _
    refine XS.pop X17.here hx rfl (hB d4_8) rfl rfl ?_
    exact X17.returnOut hx Bd.returns (hB d4_9) hr
  · show Qsci Z G1 fm i q h0 n0 _ T17.heap _
    rw [eq17]
    exact ⟨rfl, N17, rfl⟩
theorem d5_0 : decode jdk_52_method_91_code 0 = .ok (.iload_n 0, 1) := by decide +kernel
theorem d5_1 : decode jdk_52_method_91_code 1 = .ok (.aload_n 1, 1) := by decide +kernel
theorem d5_2 : decode jdk_52_method_91_code 2 = .ok (.invokestatic 48, 3) := by decide +kernel
theorem pd___B_I : parseMethodDescriptor "([B)I" = some ⟨[(.array .byte)], some .int⟩ := by decide +kernel
theorem d5_5 : decode jdk_52_method_91_code 5 = .ok (.invokestatic 414, 3) := by decide +kernel
theorem pd__II_V : parseMethodDescriptor "(II)V" = some ⟨[.int, .int], none⟩ := by decide +kernel
theorem d5_8 : decode jdk_52_method_91_code 8 = .ok (.return_, 1) := by decide +kernel
def Quci (Z : State) (G1 : Int32) (fm : Value) (i : Int32) (b : Addr) (kb : ClassId) (z : Int32) (vs : List Value) (h0 : Heap) (n0 : Nat) (v : Option Value) (h : Heap) (L : List Loc) : Prop := v = none ∧ Fr n0 L ∧ h = h0
theorem ef_jdk_52_method_91_code_IR (m : MethodId) (x0 : Int32) (x1 : Addr) : entryFrame m #[.int x0, .ref x1] 2 = mkF m 0 #[.val (.int x0), .val (.ref x1)] [] := by first | (simp [entryFrame, mkF, argsToLocals, Value.category]; done) | rfl
abbrev y5 : MethodName := ⟨"java/lang/StringUTF16", "checkIndex", "(I[B)V"⟩
theorem rmuci (l : Launch) (Z : State) (a0 : Array Value) (G1 : Int32) (fm : Value) (hG : Glob Z a0 G1 fm) (ws : List Jvm.Cond) (i : Int32) (b : Addr) (kb : ClassId) (z : Int32) (vs : List Value) (h0 : Heap) (n0 : Nat) (Z0 : n0 ≤ h0.size) (X00 : Old Z n0 h0) (V_b : Arv Z h0 b kb .byte z vs (.int 0)) (h1 : ¬ i < 0) (h2 : i < (z >>> ((1 : Int32) &&& 31))) :
    Met l Z h0 y5 jdk_52_method_91_code 2 none ws (Room.mk 2 0 0 27) #[.int i, .ref b] (Quci Z G1 fm i b kb z vs h0 n0) := by
  obtain ⟨hw, O_cs, P_cs, O_as, O_hi, O_lo, O_fm, R_fm⟩ := id hG
  have W := @own_W _ _ hw
  refine own_go "java/lang/StringUTF16" rfl (plainFor_of_name pn_java_lang_StringUTF16) ?_
  intro p e s m below meth c s₁ Bd hx hby hml hown hnm X0 e0 hZ
  have hB := @hb _ _ hby
  have N0 := Fr.nil n0
  -- pc 2: java/lang/StringUTF16.length
  obtain ⟨_, _, ⟨T18, L18, k18, n18⟩, -, X18, ⟨Lc18, hQ18, l18, y18, z18⟩, st18⟩ := Jvm.LawKit.callS X0 hx (y := y2) hown (mvT hZ (W 109 rfl)) (mvT hZ (W 110 rfl)) (mvT hZ (W 40 rfl)) (mvT hZ (W 111 rfl)) (by decide) (backOf (W := 1) (rmulen l Z a0 G1 fm hG [] b kb z vs h0 n0 Z0 X00 V_b) hZ (W 111 rfl) (W 40 rfl) (by decide) (by decide)) (g := (mkF m 2 #[.val (.int i), .val (.ref b)] [.ref b, .int i])) rfl (by rw [hml]; rfl) (argsL := [.ref b]) (rest := [.int i]) (lenOf pd___B_I rfl) rfl (by show 2 * 0 + _ ≤ _; exact Nat.le_of_eq rfl) (hB d5_2) (fun _ _ => ⟨rfl, e0, (by decide : 0 + 0 ≤ _), (by decide : 0 + 0 ≤ _)⟩)
  dsimp only [Pt.U, Pt.locs, Pt.cells, Pt.slots] at X18 l18 y18 z18 st18 hQ18
  subst l18 y18 z18
  obtain ⟨rfl, N18q, eq18⟩ := hQ18
  have N18 := Fr.app N0 N18q
  -- pc 5: java/lang/String.checkIndex
  obtain ⟨_, _, ⟨T19, L19, k19, n19⟩, -, X19, ⟨Lc19, hQ19, l19, y19, z19⟩, st19⟩ := Jvm.LawKit.callS X18 hx (y := y4) hown (mvT hZ (W 112 rfl)) (mvT hZ (W 67 rfl)) (mvT hZ (W 4 rfl)) (mvT hZ (W 68 rfl)) (by decide) (backOf (W := 0) (rmsci l Z a0 G1 fm hG [] i (z >>> ((1 : Int32) &&& 31)) h0 n0 Z0 X00 (by first | assumption | decide | rfl) (by first | assumption | decide | rfl)) hZ (W 68 rfl) (W 4 rfl) (by decide) (by decide)) (g := (mkF m 5 #[.val (.int i), .val (.ref b)] [(.int (z >>> ((1 : Int32) &&& 31))), .int i])) rfl (by rw [hml]; rfl) (argsL := [.int i, (.int (z >>> ((1 : Int32) &&& 31)))]) (rest := []) (lenOf pd__II_V rfl) rfl (by show 2 * 0 + _ ≤ _; exact Nat.le_of_eq rfl) (hB d5_5) (fun _ _ => ⟨rfl, eq18, (by decide : 0 + 0 ≤ _), (by decide : 0 + 0 ≤ _)⟩)
  dsimp only [Pt.U, Pt.locs, Pt.cells, Pt.slots] at X19 l19 y19 z19 st19 hQ19
  subst l19 y19 z19
  obtain ⟨rfl, N19q, eq19⟩ := hQ19
  have N19 := Fr.app N18 N19q
  obtain ⟨fs, hr, hrun, hended, hW, hsame⟩ := X19.leave (v := none) (fun _ => rfl)
  refine ⟨_, _, castTop (ef_jdk_52_method_91_code_IR m i b) ?_, hrun, hended, _, _, rfl, ?_, ⟨_, rfl⟩, hW, hsame.mono (own_ble rfl) (own_ble rfl)⟩
  · show Steps _ _ _ (s₁.setTop (mkF m 0 #[.val (.int i), .val (.ref b)] [])) _
    refine XS.iloadN X0.here hx rfl (hB d5_0) rfl ?_
    refine XS.aloadN X0.here hx rfl (hB d5_1) rfl rfl ?_
    refine st18 _ ?_
    show Steps _ _ _ (T18.setTop (mkF m 5 #[.val (.int i), .val (.ref b)] [(.int (z >>> ((1 : Int32) &&& 31))), .int i])) _
    refine st19 _ ?_
    show Steps _ _ _ (T19.setTop (mkF m 8 #[.val (.int i), .val (.ref b)] [])) _
    exact X19.returnOut hx Bd.returns (hB d5_8) hr
  · show Quci Z G1 fm i b kb z vs h0 n0 _ T19.heap _
    rw [eq19]
    exact ⟨rfl, N19, rfl⟩
theorem d6_0 : decode jdk_43_method_2_code 0 = .ok (.iload_n 1, 1) := by decide +kernel
theorem d6_1 : decode jdk_43_method_2_code 1 = .ok (.aload_n 0, 1) := by decide +kernel
theorem d6_2 : decode jdk_43_method_2_code 2 = .ok (.arraylength, 1) := by decide +kernel
theorem d6_3 : decode jdk_43_method_2_code 3 = .ok (.invokestatic 9, 3) := by decide +kernel
theorem d6_6 : decode jdk_43_method_2_code 6 = .ok (.aload_n 0, 1) := by decide +kernel
theorem d6_7 : decode jdk_43_method_2_code 7 = .ok (.iload_n 1, 1) := by decide +kernel
theorem d6_8 : decode jdk_43_method_2_code 8 = .ok (.baload, 1) := by decide +kernel
theorem d6_9 : decode jdk_43_method_2_code 9 = .ok (.sipush 255, 3) := by decide +kernel
theorem d6_12 : decode jdk_43_method_2_code 12 = .ok (.iand, 1) := by decide +kernel
theorem d6_13 : decode jdk_43_method_2_code 13 = .ok (.i2c, 1) := by decide +kernel
theorem d6_14 : decode jdk_43_method_2_code 14 = .ok (.ireturn, 1) := by decide +kernel
def Qlca (Z : State) (G1 : Int32) (fm : Value) (b : Addr) (kb : ClassId) (z : Int32) (vs : List Value) (cd : Int32) (i : Int32) (cs : List Int32) (K : Nat) (cz : Int32) (h0 : Heap) (n0 : Nat) (v : Option Value) (h : Heap) (L : List Loc) : Prop := v = some (.int cz) ∧ Fr n0 L ∧ h = h0
theorem ef_jdk_43_method_2_code_RI (m : MethodId) (x0 : Addr) (x1 : Int32) : entryFrame m #[.ref x0, .int x1] 2 = mkF m 0 #[.val (.ref x0), .val (.int x1)] [] := by first | (simp [entryFrame, mkF, argsToLocals, Value.category]; done) | rfl
abbrev y6 : MethodName := ⟨"java/lang/StringLatin1", "charAt", "([BI)C"⟩
theorem pn_java_lang_StringLatin1 : plainName "java/lang/StringLatin1" = true := by first | (simp [plainName, overriddenIn]; done) | decide +kernel
theorem rmlca (l : Launch) (Z : State) (a0 : Array Value) (G1 : Int32) (fm : Value) (hG : Glob Z a0 G1 fm) (ws : List Jvm.Cond) (b : Addr) (kb : ClassId) (z : Int32) (vs : List Value) (cd : Int32) (i : Int32) (cs : List Int32) (K : Nat) (cz : Int32) (h0 : Heap) (n0 : Nat) (Z0 : n0 ≤ h0.size) (X00 : Old Z n0 h0) (V_b : Arv Z h0 b kb .byte z vs (.int 0)) (hL : cd = 0 ∧ z = Int32.ofNat cs.length ∧ vs = cs.map own_lb ∧ ∀ c ∈ cs, ¬ (255 : Int32) < c) (hn : cs.length < 5) (hu : ∀ c ∈ cs, own_u16 c) (hi : i = Int32.ofNat K) (hg : cs[K]? = some cz) :
    Met l Z h0 y6 jdk_43_method_2_code 2 (some .char) ws (Room.mk 2 0 0 27) #[.ref b, .int i] (Qlca Z G1 fm b kb z vs cd i cs K cz h0 n0) := by
  obtain ⟨hw, O_cs, P_cs, O_as, O_hi, O_lo, O_fm, R_fm⟩ := id hG
  have W := @own_W _ _ hw
  refine own_go "java/lang/StringLatin1" rfl (plainFor_of_name pn_java_lang_StringLatin1) ?_
  intro p e s m below meth c s₁ Bd hx hby hml hown hnm X0 e0 hZ
  have hB := @hb _ _ hby
  have N0 := Fr.nil n0
  have hsL := own_sL K hL hn hu hi hg
  obtain ⟨clq20, Arq20, qaq20, Sq20, Nq20, Hq20, Gq20⟩ := id V_b
  -- pc 3: java/lang/String.checkIndex
  obtain ⟨_, _, ⟨T21, L21, k21, n21⟩, -, X21, ⟨Lc21, hQ21, l21, y21, z21⟩, st21⟩ := Jvm.LawKit.callS X0 hx (y := y4) hown (mvT hZ (W 66 rfl)) (mvT hZ (W 67 rfl)) (mvT hZ (W 4 rfl)) (mvT hZ (W 68 rfl)) (by decide) (backOf (W := 0) (rmsci l Z a0 G1 fm hG [] i z h0 n0 Z0 X00 hsL.1 hsL.2.1) hZ (W 68 rfl) (W 4 rfl) (by decide) (by decide)) (g := (mkF m 3 #[.val (.ref b), .val (.int i)] [.int z, .int i])) rfl (by rw [hml]; rfl) (argsL := [.int i, .int z]) (rest := []) (lenOf pd__II_V rfl) rfl (by show 2 * 0 + _ ≤ _; exact Nat.le_of_eq rfl) (hB d6_3) (fun _ _ => ⟨rfl, e0, (by decide : 0 + 0 ≤ _), (by decide : 0 + 0 ≤ _)⟩)
  dsimp only [Pt.U, Pt.locs, Pt.cells, Pt.slots] at X21 l21 y21 z21 st21 hQ21
  subst l21 y21 z21
  obtain ⟨rfl, N21q, eq21⟩ := hQ21
  have N21 := Fr.app N0 N21q
  obtain ⟨clq22, Arq22, qaq22, Sq22, Nq22, Hq22, Gq22⟩ := id V_b
  have hinq22 := inb_of (j := i) Sq22 ⟨hsL.1, hsL.2.1⟩
  have hatq22 := Has.at (v := (.int ((cz.toInt8.toInt32).toInt8.toInt32))) Hq22 hinq22 hsL.2.2.1
  obtain ⟨fs, hr, hrun, hended, hW, hsame⟩ := X21.leave (v := some (.int (nar .char ((((cz.toInt8.toInt32).toInt8.toInt32) &&& (255 : Int32)).toUInt32.toUInt16.toUInt32.toInt32)))) (fun h => by rw [Bd.returns] at h; cases h)
  refine ⟨_, _, castTop (ef_jdk_43_method_2_code_RI m b i) ?_, hrun, hended, _, _, rfl, ?_, ⟨_, rfl⟩, hW, hsame.mono (own_ble rfl) (own_ble rfl)⟩
  · show Steps _ _ _ (s₁.setTop (mkF m 0 #[.val (.ref b), .val (.int i)] [])) _
    refine XS.iloadN X0.here hx rfl (hB d6_0) rfl ?_
    refine XS.aloadN X0.here hx rfl (hB d6_1) rfl rfl ?_
    refine X0.arraylength hx (own_cell e0 Arq20.1) (State.isArrayOf_alike hZ.alike Arq20.2.1) (g := (mkF m 2 #[.val (.ref b), .val (.int i)] [.ref b, .int i])) rfl rfl (hB d6_2) _ ?_
    rw [len_of Sq20 Nq20]
    refine st21 _ ?_
    show Steps _ _ _ (T21.setTop (mkF m 6 #[.val (.ref b), .val (.int i)] [])) _
    refine XS.aloadN X21.here hx rfl (hB d6_6) rfl rfl ?_
    refine XS.iloadN X21.here hx rfl (hB d6_7) rfl ?_
    refine X21.baloadBytes hx (j := i) (v := (.int ((cz.toInt8.toInt32).toInt8.toInt32))) (own_cell eq21 Arq22.1) (State.isArrayOf_alike hZ.alike Arq22.2.1) Arq22.2.2 hinq22 hatq22 (g := (mkF m 8 #[.val (.ref b), .val (.int i)] [.int i, .ref b])) rfl rfl (hB d6_8) _ ?_
    refine XS.sipush X21.here hx rfl (hB d6_9) ?_
    refine XS.iand X21.here hx rfl (hB d6_12) rfl ?_
    refine XS.i2c X21.here hx rfl (hB d6_13) rfl ?_
    exact retN X21 hx (t := .char) Bd.returns (by simp) (hB d6_14) hr
  · show Qlca Z G1 fm b kb z vs cd i cs K cz h0 n0 _ T21.heap _
    rw [eq21]
    exact ⟨(by rw [hsL.2.2.2]), N21, rfl⟩
theorem d7_0 : decode jdk_52_method_83_code 0 = .ok (.iload_n 1, 1) := by decide +kernel
theorem d7_1 : decode jdk_52_method_83_code 1 = .ok (.aload_n 0, 1) := by decide +kernel
theorem d7_2 : decode jdk_52_method_83_code 2 = .ok (.invokestatic 67, 3) := by decide +kernel
theorem pd__I_B_V : parseMethodDescriptor "(I[B)V" = some ⟨[.int, (.array .byte)], none⟩ := by decide +kernel
theorem d7_5 : decode jdk_52_method_83_code 5 = .ok (.aload_n 0, 1) := by decide +kernel
theorem d7_6 : decode jdk_52_method_83_code 6 = .ok (.iload_n 1, 1) := by decide +kernel
theorem d7_7 : decode jdk_52_method_83_code 7 = .ok (.invokestatic 71, 3) := by decide +kernel
theorem pd___BI_C : parseMethodDescriptor "([BI)C" = some ⟨[(.array .byte), .int], some .char⟩ := by decide +kernel
theorem d7_10 : decode jdk_52_method_83_code 10 = .ok (.ireturn, 1) := by decide +kernel
def Quca (Z : State) (G1 : Int32) (fm : Value) (b : Addr) (kb : ClassId) (z : Int32) (vs : List Value) (i : Int32) (cs : List Int32) (K : Nat) (cz : Int32) (h0 : Heap) (n0 : Nat) (v : Option Value) (h : Heap) (L : List Loc) : Prop := v = some (.int cz) ∧ Fr n0 L ∧ h = h0
theorem ef_jdk_52_method_83_code_RI (m : MethodId) (x0 : Addr) (x1 : Int32) : entryFrame m #[.ref x0, .int x1] 2 = mkF m 0 #[.val (.ref x0), .val (.int x1)] [] := by first | (simp [entryFrame, mkF, argsToLocals, Value.category]; done) | rfl
abbrev y7 : MethodName := ⟨"java/lang/StringUTF16", "charAt", "([BI)C"⟩
theorem rmuca (l : Launch) (Z : State) (a0 : Array Value) (G1 : Int32) (fm : Value) (hG : Glob Z a0 G1 fm) (ws : List Jvm.Cond) (b : Addr) (kb : ClassId) (z : Int32) (vs : List Value) (i : Int32) (cs : List Int32) (K : Nat) (cz : Int32) (h0 : Heap) (n0 : Nat) (Z0 : n0 ≤ h0.size) (X00 : Old Z n0 h0) (V_b : Arv Z h0 b kb .byte z vs (.int 0)) (hz : z = Int32.ofNat (2 * cs.length)) (hv : vs = own_wb cs) (hn : cs.length < 5) (hu : ∀ c ∈ cs, own_u16 c) (hi : i = Int32.ofNat K) (hg : cs[K]? = some cz) :
    Met l Z h0 y7 jdk_52_method_83_code 2 (some .char) ws (Room.mk 3 0 0 40) #[.ref b, .int i] (Quca Z G1 fm b kb z vs i cs K cz h0 n0) := by
  obtain ⟨hw, O_cs, P_cs, O_as, O_hi, O_lo, O_fm, R_fm⟩ := id hG
  have W := @own_W _ _ hw
  refine own_go "java/lang/StringUTF16" rfl (plainFor_of_name pn_java_lang_StringUTF16) ?_
  intro p e s m below meth c s₁ Bd hx hby hml hown hnm X0 e0 hZ
  have hB := @hb _ _ hby
  have N0 := Fr.nil n0
  have hsw := own_sW K hz hv hn hu hi hg
  -- pc 2: java/lang/StringUTF16.checkIndex
  obtain ⟨_, _, ⟨T23, L23, k23, n23⟩, -, X23, ⟨Lc23, hQ23, l23, y23, z23⟩, st23⟩ := Jvm.LawKit.callS X0 hx (y := y5) hown (mvT hZ (W 106 rfl)) (mvT hZ (W 107 rfl)) (mvT hZ (W 40 rfl)) (mvT hZ (W 108 rfl)) (by decide) (backOf (W := 0) (rmuci l Z a0 G1 fm hG [] i b kb z vs h0 n0 Z0 X00 V_b hsw.1 hsw.2.1) hZ (W 108 rfl) (W 40 rfl) (by decide) (by decide)) (g := (mkF m 2 #[.val (.ref b), .val (.int i)] [.ref b, .int i])) rfl (by rw [hml]; rfl) (argsL := [.int i, .ref b]) (rest := []) (lenOf pd__I_B_V rfl) rfl (by show 2 * 0 + _ ≤ _; exact Nat.le_of_eq rfl) (hB d7_2) (fun _ _ => ⟨rfl, e0, (by decide : 0 + 0 ≤ _), (by decide : 0 + 0 ≤ _)⟩)
  dsimp only [Pt.U, Pt.locs, Pt.cells, Pt.slots] at X23 l23 y23 z23 st23 hQ23
  subst l23 y23 z23
  obtain ⟨rfl, N23q, eq23⟩ := hQ23
  have N23 := Fr.app N0 N23q
  -- pc 7: java/lang/StringUTF16.getChar
  obtain ⟨_, _, ⟨T24, L24, k24, n24⟩, -, X24, ⟨Lc24, hQ24, l24, y24, z24⟩, st24⟩ := Jvm.LawKit.callS X23 hx (y := y0) hown (mvT hZ (W 100 rfl)) (mvT hZ (W 101 rfl)) (mvT hZ (W 40 rfl)) (mvT hZ (W 102 rfl)) (by decide) (backOf (W := 0) (rmgch l Z a0 G1 fm hG [] b kb z vs i cs K cz h0 n0 Z0 X00 V_b (by first | assumption | decide | rfl) (by first | assumption | decide | rfl) (by first | assumption | decide | rfl) (by first | assumption | decide | rfl) (by first | assumption | decide | rfl) (by first | assumption | decide | rfl)) hZ (W 102 rfl) (W 40 rfl) (by decide) (by decide)) (g := (mkF m 7 #[.val (.ref b), .val (.int i)] [.int i, .ref b])) rfl (by rw [hml]; rfl) (argsL := [.ref b, .int i]) (rest := []) (lenOf pd___BI_C rfl) rfl (by show 2 * 0 + _ ≤ _; exact Nat.le_of_eq rfl) (hB d7_7) (fun _ _ => ⟨rfl, eq23, (by decide : 0 + 0 ≤ _), (by decide : 0 + 0 ≤ _)⟩)
  dsimp only [Pt.U, Pt.locs, Pt.cells, Pt.slots] at X24 l24 y24 z24 st24 hQ24
  subst l24 y24 z24
  obtain ⟨rfl, N24q, eq24⟩ := hQ24
  have N24 := Fr.app N23 N24q
  obtain ⟨fs, hr, hrun, hended, hW, hsame⟩ := X24.leave (v := some (.int (nar .char cz))) (fun h => by rw [Bd.returns] at h; cases h)
  refine ⟨_, _, castTop (ef_jdk_52_method_83_code_RI m b i) ?_, hrun, hended, _, _, rfl, ?_, ⟨_, rfl⟩, hW, hsame.mono (own_ble rfl) (own_ble rfl)⟩
  · show Steps _ _ _ (s₁.setTop (mkF m 0 #[.val (.ref b), .val (.int i)] [])) _
    refine XS.iloadN X0.here hx rfl (hB d7_0) rfl ?_
    refine XS.aloadN X0.here hx rfl (hB d7_1) rfl rfl ?_
    refine st23 _ ?_
    show Steps _ _ _ (T23.setTop (mkF m 5 #[.val (.ref b), .val (.int i)] [])) _
    refine XS.aloadN X23.here hx rfl (hB d7_5) rfl rfl ?_
    refine XS.iloadN X23.here hx rfl (hB d7_6) rfl ?_
    refine st24 _ ?_
    show Steps _ _ _ (T24.setTop (mkF m 10 #[.val (.ref b), .val (.int i)] [.int cz])) _
    exact retN X24 hx (t := .char) Bd.returns (by simp) (hB d7_10) hr
  · show Quca Z G1 fm b kb z vs i cs K cz h0 n0 _ T24.heap _
    rw [eq24]
    exact ⟨(by rw [own_n16 (hu _ (own_mem hg))]), N24, rfl⟩
theorem d8_0 : decode jdk_42_method_154_code 0 = .ok (.getstatic 38, 3) := by decide +kernel
theorem d8_3 : decode jdk_42_method_154_code 3 = .ok (.ifCond .eq 14, 3) := by decide +kernel
theorem d8_6 : decode jdk_42_method_154_code 6 = .ok (.aload_n 0, 1) := by decide +kernel
theorem d8_7 : decode jdk_42_method_154_code 7 = .ok (.getfield 15, 3) := by decide +kernel
theorem d8_10 : decode jdk_42_method_154_code 10 = .ok (.ifCond .ne 7, 3) := by decide +kernel
theorem d8_13 : decode jdk_42_method_154_code 13 = .ok (.iconst 1, 1) := by decide +kernel
theorem d8_14 : decode jdk_42_method_154_code 14 = .ok (.goto 4, 3) := by decide +kernel
theorem d8_18 : decode jdk_42_method_154_code 18 = .ok (.ireturn, 1) := by decide +kernel
def QislL (Z : State) (G1 : Int32) (fm : Value) (a1 : Addr) (cd : Int32) (h0 : Heap) (n0 : Nat) (v : Option Value) (h : Heap) (L : List Loc) : Prop := v = some (.int 1) ∧ Fr n0 L ∧ h = h0
theorem ef_jdk_42_method_154_code_R (m : MethodId) (x0 : Addr) : entryFrame m #[.ref x0] 1 = mkF m 0 #[.val (.ref x0)] [] := by first | (simp [entryFrame, mkF, argsToLocals, Value.category]; done) | rfl
abbrev y8 : MethodName := ⟨"java/lang/String", "isLatin1", "()Z"⟩
theorem rmislL (l : Launch) (Z : State) (a0 : Array Value) (G1 : Int32) (fm : Value) (hG : Glob Z a0 G1 fm) (ws : List Jvm.Cond) (a1 : Addr) (cd : Int32) (h0 : Heap) (n0 : Nat) (Z0 : n0 ≤ h0.size) (X00 : Old Z n0 h0) (F_coder_a1 : Fld Z h0 a1 "java/lang/String" "coder" "B" (.int cd)) (h1 : cd = (0 : Int32)) :
    Met l Z h0 y8 jdk_42_method_154_code 1 (some .boolean) ws (Room.mk 0 0 0 0) #[.ref a1] (QislL Z G1 fm a1 cd h0 n0) := by
  obtain ⟨hw, O_cs, P_cs, O_as, O_hi, O_lo, O_fm, R_fm⟩ := id hG
  have W := @own_W _ _ hw
  refine own_go "java/lang/String" rfl (plainFor_of_name pn_java_lang_String) ?_
  intro p e s m below meth c s₁ Bd hx hby hml hown hnm X0 e0 hZ
  have hB := @hb _ _ hby
  have N0 := Fr.nil n0
  obtain ⟨T25, X25, e25, st25⟩ := getS2 X0 hx hZ hown (host := "") (Or.inl (W 37 rfl)) Via.refl e0 (O_cs.ext X00.2) (g := (mkF m 0 #[.val (.ref a1)] [])) rfl (hB d8_0)
  obtain ⟨T26, X26, e26, st26⟩ := getF X25 hx hZ hown (host := "") (Or.inl (W 22 rfl)) Via.refl e25 F_coder_a1 (g := (mkF m 7 #[.val (.ref a1)] [.ref a1])) rfl rfl (hB d8_7)
  obtain ⟨fs, hr, hrun, hended, hW, hsame⟩ := X26.leave (v := some (.int 1)) (fun h => by rw [Bd.returns] at h; cases h)
  refine ⟨_, _, castTop (ef_jdk_42_method_154_code_R m a1) ?_, hrun, hended, _, _, rfl, ?_, ⟨_, rfl⟩, hW, hsame.mono (own_ble rfl) (own_ble rfl)⟩
  · show Steps _ _ _ (s₁.setTop (mkF m 0 #[.val (.ref a1)] [])) _
    refine st25 _ ?_
    show Steps _ _ _ (T25.setTop (mkF m 3 #[.val (.ref a1)] [.int G1])) _
    refine XS.ifNo X25.here hx rfl (hB d8_3) rfl ((if0 _ _).trans (feq (P_cs : ¬ (G1 = (0 : Int32)))).1) ?_
    refine XS.aloadN X25.here hx rfl (hB d8_6) rfl rfl ?_
    refine st26 _ ?_
    show Steps _ _ _ (T26.setTop (mkF m 10 #[.val (.ref a1)] [.int cd])) _
    refine XS.ifNo X26.here hx rfl (hB d8_10) rfl ((if0 _ _).trans (teq (h1 : cd = (0 : Int32))).2) ?_
    refine XS.iconst X26.here hx rfl (hB d8_13) ?_
    refine XS.goto X26.here hx rfl (pc0 := 14) (pc' := 18) rfl (hB d8_14) (by decide) (by decide) ?_
    exact retN X26 hx (t := .boolean) Bd.returns (by simp) (hB d8_18) hr
  · show QislL Z G1 fm a1 cd h0 n0 _ T26.heap _
    rw [e26]
    exact ⟨rfl, N0, rfl⟩
theorem d8_17 : decode jdk_42_method_154_code 17 = .ok (.iconst 0, 1) := by decide +kernel
def QislW (Z : State) (G1 : Int32) (fm : Value) (a1 : Addr) (cd : Int32) (h0 : Heap) (n0 : Nat) (v : Option Value) (h : Heap) (L : List Loc) : Prop := v = some (.int 0) ∧ Fr n0 L ∧ h = h0
theorem rmislW (l : Launch) (Z : State) (a0 : Array Value) (G1 : Int32) (fm : Value) (hG : Glob Z a0 G1 fm) (ws : List Jvm.Cond) (a1 : Addr) (cd : Int32) (h0 : Heap) (n0 : Nat) (Z0 : n0 ≤ h0.size) (X00 : Old Z n0 h0) (F_coder_a1 : Fld Z h0 a1 "java/lang/String" "coder" "B" (.int cd)) (h1 : ¬ (cd = (0 : Int32))) :
    Met l Z h0 y8 jdk_42_method_154_code 1 (some .boolean) ws (Room.mk 0 0 0 0) #[.ref a1] (QislW Z G1 fm a1 cd h0 n0) := by
  obtain ⟨hw, O_cs, P_cs, O_as, O_hi, O_lo, O_fm, R_fm⟩ := id hG
  have W := @own_W _ _ hw
  refine own_go "java/lang/String" rfl (plainFor_of_name pn_java_lang_String) ?_
  intro p e s m below meth c s₁ Bd hx hby hml hown hnm X0 e0 hZ
  have hB := @hb _ _ hby
  have N0 := Fr.nil n0
  obtain ⟨T27, X27, e27, st27⟩ := getS2 X0 hx hZ hown (host := "") (Or.inl (W 37 rfl)) Via.refl e0 (O_cs.ext X00.2) (g := (mkF m 0 #[.val (.ref a1)] [])) rfl (hB d8_0)
  obtain ⟨T28, X28, e28, st28⟩ := getF X27 hx hZ hown (host := "") (Or.inl (W 22 rfl)) Via.refl e27 F_coder_a1 (g := (mkF m 7 #[.val (.ref a1)] [.ref a1])) rfl rfl (hB d8_7)
  obtain ⟨fs, hr, hrun, hended, hW, hsame⟩ := X28.leave (v := some (.int 0)) (fun h => by rw [Bd.returns] at h; cases h)
  refine ⟨_, _, castTop (ef_jdk_42_method_154_code_R m a1) ?_, hrun, hended, _, _, rfl, ?_, ⟨_, rfl⟩, hW, hsame.mono (own_ble rfl) (own_ble rfl)⟩
  · show Steps _ _ _ (s₁.setTop (mkF m 0 #[.val (.ref a1)] [])) _
    refine st27 _ ?_
    show Steps _ _ _ (T27.setTop (mkF m 3 #[.val (.ref a1)] [.int G1])) _
    refine XS.ifNo X27.here hx rfl (hB d8_3) rfl ((if0 _ _).trans (feq (P_cs : ¬ (G1 = (0 : Int32)))).1) ?_
    refine XS.aloadN X27.here hx rfl (hB d8_6) rfl rfl ?_
    refine st28 _ ?_
    show Steps _ _ _ (T28.setTop (mkF m 10 #[.val (.ref a1)] [.int cd])) _
    refine XS.ifYes X28.here hx rfl (pc0 := 10) (pc' := 17) rfl (hB d8_10) rfl ((if0 _ _).trans (feq (h1 : ¬ (cd = (0 : Int32)))).2) (by decide) (by decide) ?_
    refine XS.iconst X28.here hx rfl (hB d8_17) ?_
    exact retN X28 hx (t := .boolean) Bd.returns (by simp) (hB d8_18) hr
  · show QislW Z G1 fm a1 cd h0 n0 _ T28.heap _
    rw [e28]
    exact ⟨rfl, N0, rfl⟩
theorem d9_0 : decode jdk_42_method_152_code 0 = .ok (.getstatic 38, 3) := by decide +kernel
theorem d9_3 : decode jdk_42_method_152_code 3 = .ok (.ifCond .eq 10, 3) := by decide +kernel
theorem d9_6 : decode jdk_42_method_152_code 6 = .ok (.aload_n 0, 1) := by decide +kernel
theorem d9_7 : decode jdk_42_method_152_code 7 = .ok (.getfield 15, 3) := by decide +kernel
theorem d9_10 : decode jdk_42_method_152_code 10 = .ok (.goto 4, 3) := by decide +kernel
theorem d9_14 : decode jdk_42_method_152_code 14 = .ok (.ireturn, 1) := by decide +kernel
def Qcod (Z : State) (G1 : Int32) (fm : Value) (a1 : Addr) (cd : Int32) (h0 : Heap) (n0 : Nat) (v : Option Value) (h : Heap) (L : List Loc) : Prop := v = some (.int cd) ∧ Fr n0 L ∧ h = h0
theorem ef_jdk_42_method_152_code_R (m : MethodId) (x0 : Addr) : entryFrame m #[.ref x0] 1 = mkF m 0 #[.val (.ref x0)] [] := by first | (simp [entryFrame, mkF, argsToLocals, Value.category]; done) | rfl
abbrev y9 : MethodName := ⟨"java/lang/String", "coder", "()B"⟩
theorem rmcod (l : Launch) (Z : State) (a0 : Array Value) (G1 : Int32) (fm : Value) (hG : Glob Z a0 G1 fm) (ws : List Jvm.Cond) (a1 : Addr) (cd : Int32) (h0 : Heap) (n0 : Nat) (Z0 : n0 ≤ h0.size) (X00 : Old Z n0 h0) (F_coder_a1 : Fld Z h0 a1 "java/lang/String" "coder" "B" (.int cd)) (h1 : nar .byte cd = cd) :
    Met l Z h0 y9 jdk_42_method_152_code 1 (some .byte) ws (Room.mk 0 0 0 0) #[.ref a1] (Qcod Z G1 fm a1 cd h0 n0) := by
  obtain ⟨hw, O_cs, P_cs, O_as, O_hi, O_lo, O_fm, R_fm⟩ := id hG
  have W := @own_W _ _ hw
  refine own_go "java/lang/String" rfl (plainFor_of_name pn_java_lang_String) ?_
  intro p e s m below meth c s₁ Bd hx hby hml hown hnm X0 e0 hZ
  have hB := @hb _ _ hby
  have N0 := Fr.nil n0
  obtain ⟨T29, X29, e29, st29⟩ := getS2 X0 hx hZ hown (host := "") (Or.inl (W 37 rfl)) Via.refl e0 (O_cs.ext X00.2) (g := (mkF m 0 #[.val (.ref a1)] [])) rfl (hB d9_0)
  obtain ⟨T30, X30, e30, st30⟩ := getF X29 hx hZ hown (host := "") (Or.inl (W 22 rfl)) Via.refl e29 F_coder_a1 (g := (mkF m 7 #[.val (.ref a1)] [.ref a1])) rfl rfl (hB d9_7)
  obtain ⟨fs, hr, hrun, hended, hW, hsame⟩ := X30.leave (v := some (.int (nar .byte cd))) (fun h => by rw [Bd.returns] at h; cases h)
  refine ⟨_, _, castTop (ef_jdk_42_method_152_code_R m a1) ?_, hrun, hended, _, _, rfl, ?_, ⟨_, rfl⟩, hW, hsame.mono (own_ble rfl) (own_ble rfl)⟩
  · show Steps _ _ _ (s₁.setTop (mkF m 0 #[.val (.ref a1)] [])) _
    refine st29 _ ?_
    show Steps _ _ _ (T29.setTop (mkF m 3 #[.val (.ref a1)] [.int G1])) _
    refine XS.ifNo X29.here hx rfl (hB d9_3) rfl ((if0 _ _).trans (feq (P_cs : ¬ (G1 = (0 : Int32)))).1) ?_
    refine XS.aloadN X29.here hx rfl (hB d9_6) rfl rfl ?_
    refine st30 _ ?_
    show Steps _ _ _ (T30.setTop (mkF m 10 #[.val (.ref a1)] [.int cd])) _
    refine XS.goto X30.here hx rfl (pc0 := 10) (pc' := 14) rfl (hB d9_10) (by decide) (by decide) ?_
    exact retN X30 hx (t := .byte) Bd.returns (by simp) (hB d9_14) hr
  · show Qcod Z G1 fm a1 cd h0 n0 _ T30.heap _
    rw [e30]
    exact ⟨(by rw [h1]), N0, rfl⟩
theorem d10_0 : decode jdk_42_method_54_code 0 = .ok (.aload_n 0, 1) := by decide +kernel
theorem d10_1 : decode jdk_42_method_54_code 1 = .ok (.getfield 9, 3) := by decide +kernel
theorem d10_4 : decode jdk_42_method_54_code 4 = .ok (.arraylength, 1) := by decide +kernel
theorem d10_5 : decode jdk_42_method_54_code 5 = .ok (.aload_n 0, 1) := by decide +kernel
theorem d10_6 : decode jdk_42_method_54_code 6 = .ok (.invokevirtual 335, 3) := by decide +kernel
theorem pd___B : parseMethodDescriptor "()B" = some ⟨[], some .byte⟩ := by decide +kernel
theorem d10_9 : decode jdk_42_method_54_code 9 = .ok (.ishr, 1) := by decide +kernel
theorem d10_10 : decode jdk_42_method_54_code 10 = .ok (.ireturn, 1) := by decide +kernel
def Qsln (Z : State) (G1 : Int32) (fm : Value) (a1 : Addr) (b : Addr) (kb : ClassId) (cd : Int32) (z : Int32) (vs : List Value) (cs : List Int32) (nn : Int32) (h0 : Heap) (n0 : Nat) (v : Option Value) (h : Heap) (L : List Loc) : Prop := v = some (.int nn) ∧ Fr n0 L ∧ h = h0
theorem ef_jdk_42_method_54_code_R (m : MethodId) (x0 : Addr) : entryFrame m #[.ref x0] 1 = mkF m 0 #[.val (.ref x0)] [] := by first | (simp [entryFrame, mkF, argsToLocals, Value.category]; done) | rfl
abbrev y10 : MethodName := ⟨"java/lang/String", "length", "()I"⟩
theorem rmsln (l : Launch) (Z : State) (a0 : Array Value) (G1 : Int32) (fm : Value) (hG : Glob Z a0 G1 fm) (ws : List Jvm.Cond) (a1 : Addr) (b : Addr) (kb : ClassId) (cd : Int32) (z : Int32) (vs : List Value) (cs : List Int32) (nn : Int32) (h0 : Heap) (n0 : Nat) (Z0 : n0 ≤ h0.size) (X00 : Old Z n0 h0) (E_a1 : Exa Z h0 a1 "java/lang/String") (F_coder_a1 : Fld Z h0 a1 "java/lang/String" "coder" "B" (.int cd)) (F_value_a1 : Fld Z h0 a1 "java/lang/String" "value" "[B" (.ref b)) (V_b : Arv Z h0 b kb .byte z vs (.int 0)) (hs : own_str cd z vs cs) (hn : cs.length < 5) (en : nn = Int32.ofNat cs.length) :
    Met l Z h0 y10 jdk_42_method_54_code 1 (some .int) ws (Room.mk 1 0 0 13) #[.ref a1] (Qsln Z G1 fm a1 b kb cd z vs cs nn h0 n0) := by
  obtain ⟨hw, O_cs, P_cs, O_as, O_hi, O_lo, O_fm, R_fm⟩ := id hG
  have W := @own_W _ _ hw
  refine own_go "java/lang/String" rfl (plainFor_of_name pn_java_lang_String) ?_
  intro p e s m below meth c s₁ Bd hx hby hml hown hnm X0 e0 hZ
  have hB := @hb _ _ hby
  have N0 := Fr.nil n0
  obtain ⟨T31, X31, e31, st31⟩ := getF X0 hx hZ hown (host := "") (Or.inl (W 21 rfl)) Via.refl e0 F_value_a1 (g := (mkF m 1 #[.val (.ref a1)] [.ref a1])) rfl rfl (hB d10_1)
  obtain ⟨clq32, Arq32, qaq32, Sq32, Nq32, Hq32, Gq32⟩ := id V_b
  obtain ⟨cq33, kq33, q33a, q33b, q33c⟩ := isOf hZ e31 E_a1
  -- pc 6: java/lang/String.coder
  obtain ⟨_, _, ⟨T33, L33, k33, n33⟩, -, X33, ⟨Lc33, hQ33, l33, y33, z33⟩, st33⟩ := X31.virtualBack hx (y := y9) (z := y9) hown (mvT hZ (W 32 rfl)) (mvT hZ (W 33 rfl)) (notFace_of_selects (args := #[]) (mvT hZ (W 35 rfl))) (mvT hZ (W 35 rfl)) (mvT hZ (W 34 rfl)) (by decide) (backOf (W := 1) (rmcod l Z a0 G1 fm hG [] a1 cd h0 n0 Z0 X00 F_coder_a1 ((own_slen hs hn en).2)) hZ (W 36 rfl) (W 4 rfl) (by decide) (by decide)) q33a q33c (g := (mkF m 6 #[.val (.ref a1)] [.ref a1, .int z])) rfl (by rw [hml]; rfl) (Steps.refl _) (argsL := []) (rest := [.int z]) (lenOf pd___B rfl) rfl (by show 2 * 0 + _ ≤ _; exact Nat.le_of_eq rfl) (hB d10_6) (fun _ _ => ⟨rfl, e31, (by decide : 0 + 0 ≤ _), (by decide : 0 + 0 ≤ _)⟩)
  dsimp only [Pt.U, Pt.locs, Pt.cells, Pt.slots] at X33 l33 y33 z33 st33 hQ33
  subst l33 y33 z33
  obtain ⟨rfl, N33q, eq33⟩ := hQ33
  have N33 := Fr.app N0 N33q
  obtain ⟨fs, hr, hrun, hended, hW, hsame⟩ := X33.leave (v := some (.int (z >>> (cd &&& 31)))) (fun h => by rw [Bd.returns] at h; cases h)
  refine ⟨_, _, castTop (ef_jdk_42_method_54_code_R m a1) ?_, hrun, hended, _, _, rfl, ?_, ⟨_, rfl⟩, hW, hsame.mono (own_ble rfl) (own_ble rfl)⟩
  · show Steps _ _ _ (s₁.setTop (mkF m 0 #[.val (.ref a1)] [])) _
    refine XS.aloadN X0.here hx rfl (hB d10_0) rfl rfl ?_
    refine st31 _ ?_
    show Steps _ _ _ (T31.setTop (mkF m 4 #[.val (.ref a1)] [.ref b])) _
    refine X31.arraylength hx (own_cell e31 Arq32.1) (State.isArrayOf_alike hZ.alike Arq32.2.1) (g := (mkF m 4 #[.val (.ref a1)] [.ref b])) rfl rfl (hB d10_4) _ ?_
    rw [len_of Sq32 Nq32]
    refine XS.aloadN X31.here hx rfl (hB d10_5) rfl rfl ?_
    refine st33.trans ?_
    show Steps _ _ _ (T33.setTop (mkF m 9 #[.val (.ref a1)] [.int cd, .int z])) _
    refine XS.ishr X33.here hx rfl (hB d10_9) rfl ?_
    exact retOut X33 hx Bd.returns rfl (Or.inl ⟨rfl, Or.inl rfl, _, rfl⟩) (hB d10_10) hr
  · show Qsln Z G1 fm a1 b kb cd z vs cs nn h0 n0 _ T33.heap _
    rw [eq33]
    exact ⟨(by rw [(own_slen hs hn en).1]), N33, rfl⟩
theorem d11_0 : decode jdk_42_method_56_code 0 = .ok (.aload_n 0, 1) := by decide +kernel
theorem d11_1 : decode jdk_42_method_56_code 1 = .ok (.invokevirtual 492, 3) := by decide +kernel
theorem pd___Z : parseMethodDescriptor "()Z" = some ⟨[], some .boolean⟩ := by decide +kernel
theorem d11_4 : decode jdk_42_method_56_code 4 = .ok (.ifCond .eq 12, 3) := by decide +kernel
theorem d11_7 : decode jdk_42_method_56_code 7 = .ok (.aload_n 0, 1) := by decide +kernel
theorem d11_8 : decode jdk_42_method_56_code 8 = .ok (.getfield 9, 3) := by decide +kernel
theorem d11_11 : decode jdk_42_method_56_code 11 = .ok (.iload_n 1, 1) := by decide +kernel
theorem d11_12 : decode jdk_42_method_56_code 12 = .ok (.invokestatic 495, 3) := by decide +kernel
theorem d11_15 : decode jdk_42_method_56_code 15 = .ok (.ireturn, 1) := by decide +kernel
theorem d11_16 : decode jdk_42_method_56_code 16 = .ok (.aload_n 0, 1) := by decide +kernel
theorem d11_17 : decode jdk_42_method_56_code 17 = .ok (.getfield 9, 3) := by decide +kernel
theorem d11_20 : decode jdk_42_method_56_code 20 = .ok (.iload_n 1, 1) := by decide +kernel
theorem d11_21 : decode jdk_42_method_56_code 21 = .ok (.invokestatic 498, 3) := by decide +kernel
theorem d11_24 : decode jdk_42_method_56_code 24 = .ok (.ireturn, 1) := by decide +kernel
def Qsca (Z : State) (G1 : Int32) (fm : Value) (a1 : Addr) (b : Addr) (kb : ClassId) (cd : Int32) (z : Int32) (vs : List Value) (i : Int32) (cs : List Int32) (K : Nat) (cz : Int32) (h0 : Heap) (n0 : Nat) (v : Option Value) (h : Heap) (L : List Loc) : Prop := v = some (.int cz) ∧ Fr n0 L ∧ h = h0
theorem ef_jdk_42_method_56_code_RI (m : MethodId) (x0 : Addr) (x1 : Int32) : entryFrame m #[.ref x0, .int x1] 2 = mkF m 0 #[.val (.ref x0), .val (.int x1)] [] := by first | (simp [entryFrame, mkF, argsToLocals, Value.category]; done) | rfl
abbrev y11 : MethodName := ⟨"java/lang/String", "charAt", "(I)C"⟩
theorem rmsca_L (l : Launch) (Z : State) (a0 : Array Value) (G1 : Int32) (fm : Value) (hG : Glob Z a0 G1 fm) (ws : List Jvm.Cond) (a1 : Addr) (b : Addr) (kb : ClassId) (cd : Int32) (z : Int32) (vs : List Value) (i : Int32) (cs : List Int32) (K : Nat) (cz : Int32) (h0 : Heap) (n0 : Nat) (Z0 : n0 ≤ h0.size) (X00 : Old Z n0 h0) (E_a1 : Exa Z h0 a1 "java/lang/String") (F_coder_a1 : Fld Z h0 a1 "java/lang/String" "coder" "B" (.int cd)) (F_value_a1 : Fld Z h0 a1 "java/lang/String" "value" "[B" (.ref b)) (V_b : Arv Z h0 b kb .byte z vs (.int 0)) (hs : own_str cd z vs cs) (hn : cs.length < 5) (hu : ∀ c ∈ cs, own_u16 c) (hi : i = Int32.ofNat K) (hg : cs[K]? = some cz) (hL : cd = 0 ∧ z = Int32.ofNat cs.length ∧ vs = cs.map own_lb ∧ ∀ c ∈ cs, ¬ (255 : Int32) < c) :
    Met l Z h0 y11 jdk_42_method_56_code 2 (some .char) ws (Room.mk 4 0 0 53) #[.ref a1, .int i] (Qsca Z G1 fm a1 b kb cd z vs i cs K cz h0 n0) := by
  obtain ⟨hw, O_cs, P_cs, O_as, O_hi, O_lo, O_fm, R_fm⟩ := id hG
  have W := @own_W _ _ hw
  refine own_go "java/lang/String" rfl (plainFor_of_name pn_java_lang_String) ?_
  intro p e s m below meth c s₁ Bd hx hby hml hown hnm X0 e0 hZ
  have hB := @hb _ _ hby
  have N0 := Fr.nil n0
  obtain ⟨cq34, kq34, q34a, q34b, q34c⟩ := isOf hZ e0 E_a1
  -- pc 1: java/lang/String.isLatin1
  obtain ⟨_, _, ⟨T34, L34, k34, n34⟩, -, X34, ⟨Lc34, hQ34, l34, y34, z34⟩, st34⟩ := X0.virtualBack hx (y := y8) (z := y8) hown (mvT hZ (W 57 rfl)) (mvT hZ (W 58 rfl)) (notFace_of_selects (args := #[]) (mvT hZ (W 60 rfl))) (mvT hZ (W 60 rfl)) (mvT hZ (W 59 rfl)) (by decide) (backOf (W := 0) (rmislL l Z a0 G1 fm hG [] a1 cd h0 n0 Z0 X00 F_coder_a1 hL.1) hZ (W 61 rfl) (W 4 rfl) (by decide) (by decide)) q34a q34c (g := (mkF m 1 #[.val (.ref a1), .val (.int i)] [.ref a1])) rfl (by rw [hml]; rfl) (Steps.refl _) (argsL := []) (rest := []) (lenOf pd___Z rfl) rfl (by show 2 * 0 + _ ≤ _; exact Nat.le_of_eq rfl) (hB d11_1) (fun _ _ => ⟨rfl, e0, (by decide : 0 + 0 ≤ _), (by decide : 0 + 0 ≤ _)⟩)
  dsimp only [Pt.U, Pt.locs, Pt.cells, Pt.slots] at X34 l34 y34 z34 st34 hQ34
  subst l34 y34 z34
  obtain ⟨rfl, N34q, eq34⟩ := hQ34
  have N34 := Fr.app N0 N34q
  obtain ⟨T35, X35, e35, st35⟩ := getF X34 hx hZ hown (host := "") (Or.inl (W 21 rfl)) Via.refl eq34 F_value_a1 (g := (mkF m 8 #[.val (.ref a1), .val (.int i)] [.ref a1])) rfl rfl (hB d11_8)
  -- pc 12: java/lang/StringLatin1.charAt
  obtain ⟨_, _, ⟨T36, L36, k36, n36⟩, -, X36, ⟨Lc36, hQ36, l36, y36, z36⟩, st36⟩ := Jvm.LawKit.callS X35 hx (y := y6) hown (mvT hZ (W 62 rfl)) (mvT hZ (W 63 rfl)) (mvT hZ (W 64 rfl)) (mvT hZ (W 65 rfl)) (by decide) (backOf (W := 0) (rmlca l Z a0 G1 fm hG [] b kb z vs cd i cs K cz h0 n0 Z0 X00 V_b hL (by first | assumption | decide | rfl) (by first | assumption | decide | rfl) (by first | assumption | decide | rfl) (by first | assumption | decide | rfl)) hZ (W 65 rfl) (W 64 rfl) (by decide) (by decide)) (g := (mkF m 12 #[.val (.ref a1), .val (.int i)] [.int i, .ref b])) rfl (by rw [hml]; rfl) (argsL := [.ref b, .int i]) (rest := []) (lenOf pd___BI_C rfl) rfl (by show 2 * 0 + _ ≤ _; exact Nat.le_of_eq rfl) (hB d11_12) (fun _ _ => ⟨rfl, e35, (by decide : 0 + 0 ≤ _), (by decide : 0 + 0 ≤ _)⟩)
  dsimp only [Pt.U, Pt.locs, Pt.cells, Pt.slots] at X36 l36 y36 z36 st36 hQ36
  subst l36 y36 z36
  obtain ⟨rfl, N36q, eq36⟩ := hQ36
  have N36 := Fr.app N34 N36q
  obtain ⟨fs, hr, hrun, hended, hW, hsame⟩ := X36.leave (v := some (.int (nar .char cz))) (fun h => by rw [Bd.returns] at h; cases h)
  refine ⟨_, _, castTop (ef_jdk_42_method_56_code_RI m a1 i) ?_, hrun, hended, _, _, rfl, ?_, ⟨_, rfl⟩, hW, hsame.mono (own_ble rfl) (own_ble rfl)⟩
  · show Steps _ _ _ (s₁.setTop (mkF m 0 #[.val (.ref a1), .val (.int i)] [])) _
    refine XS.aloadN X0.here hx rfl (hB d11_0) rfl rfl ?_
    refine st34.trans ?_
    show Steps _ _ _ (T34.setTop (mkF m 4 #[.val (.ref a1), .val (.int i)] [.int 1])) _
    refine XS.ifNo X34.here hx rfl (hB d11_4) rfl ((if0 _ _).trans (feq (by decide : ¬ ((1 : Int32) = (0 : Int32)))).1) ?_
    refine XS.aloadN X34.here hx rfl (hB d11_7) rfl rfl ?_
    refine st35 _ ?_
    show Steps _ _ _ (T35.setTop (mkF m 11 #[.val (.ref a1), .val (.int i)] [.ref b])) _
    refine XS.iloadN X35.here hx rfl (hB d11_11) rfl ?_
    refine st36 _ ?_
    show Steps _ _ _ (T36.setTop (mkF m 15 #[.val (.ref a1), .val (.int i)] [.int cz])) _
    exact retN X36 hx (t := .char) Bd.returns (by simp) (hB d11_15) hr
  · show Qsca Z G1 fm a1 b kb cd z vs i cs K cz h0 n0 _ T36.heap _
    rw [eq36]
    exact ⟨(by rw [own_n16 (hu _ (own_mem hg))]), N36, rfl⟩
theorem rmsca_W (l : Launch) (Z : State) (a0 : Array Value) (G1 : Int32) (fm : Value) (hG : Glob Z a0 G1 fm) (ws : List Jvm.Cond) (a1 : Addr) (b : Addr) (kb : ClassId) (cd : Int32) (z : Int32) (vs : List Value) (i : Int32) (cs : List Int32) (K : Nat) (cz : Int32) (h0 : Heap) (n0 : Nat) (Z0 : n0 ≤ h0.size) (X00 : Old Z n0 h0) (E_a1 : Exa Z h0 a1 "java/lang/String") (F_coder_a1 : Fld Z h0 a1 "java/lang/String" "coder" "B" (.int cd)) (F_value_a1 : Fld Z h0 a1 "java/lang/String" "value" "[B" (.ref b)) (V_b : Arv Z h0 b kb .byte z vs (.int 0)) (hs : own_str cd z vs cs) (hn : cs.length < 5) (hu : ∀ c ∈ cs, own_u16 c) (hi : i = Int32.ofNat K) (hg : cs[K]? = some cz) (hc : ¬ (cd = (0 : Int32))) (hz : z = Int32.ofNat (2 * cs.length)) (hv : vs = own_wb cs) :
    Met l Z h0 y11 jdk_42_method_56_code 2 (some .char) ws (Room.mk 4 0 0 53) #[.ref a1, .int i] (Qsca Z G1 fm a1 b kb cd z vs i cs K cz h0 n0) := by
  obtain ⟨hw, O_cs, P_cs, O_as, O_hi, O_lo, O_fm, R_fm⟩ := id hG
  have W := @own_W _ _ hw
  refine own_go "java/lang/String" rfl (plainFor_of_name pn_java_lang_String) ?_
  intro p e s m below meth c s₁ Bd hx hby hml hown hnm X0 e0 hZ
  have hB := @hb _ _ hby
  have N0 := Fr.nil n0
  obtain ⟨cq37, kq37, q37a, q37b, q37c⟩ := isOf hZ e0 E_a1
  -- pc 1: java/lang/String.isLatin1
  obtain ⟨_, _, ⟨T37, L37, k37, n37⟩, -, X37, ⟨Lc37, hQ37, l37, y37, z37⟩, st37⟩ := X0.virtualBack hx (y := y8) (z := y8) hown (mvT hZ (W 57 rfl)) (mvT hZ (W 58 rfl)) (notFace_of_selects (args := #[]) (mvT hZ (W 60 rfl))) (mvT hZ (W 60 rfl)) (mvT hZ (W 59 rfl)) (by decide) (backOf (W := 0) (rmislW l Z a0 G1 fm hG [] a1 cd h0 n0 Z0 X00 F_coder_a1 hc) hZ (W 61 rfl) (W 4 rfl) (by decide) (by decide)) q37a q37c (g := (mkF m 1 #[.val (.ref a1), .val (.int i)] [.ref a1])) rfl (by rw [hml]; rfl) (Steps.refl _) (argsL := []) (rest := []) (lenOf pd___Z rfl) rfl (by show 2 * 0 + _ ≤ _; exact Nat.le_of_eq rfl) (hB d11_1) (fun _ _ => ⟨rfl, e0, (by decide : 0 + 0 ≤ _), (by decide : 0 + 0 ≤ _)⟩)
  dsimp only [Pt.U, Pt.locs, Pt.cells, Pt.slots] at X37 l37 y37 z37 st37 hQ37
  subst l37 y37 z37
  obtain ⟨rfl, N37q, eq37⟩ := hQ37
  have N37 := Fr.app N0 N37q
  obtain ⟨T38, X38, e38, st38⟩ := getF X37 hx hZ hown (host := "") (Or.inl (W 21 rfl)) Via.refl eq37 F_value_a1 (g := (mkF m 17 #[.val (.ref a1), .val (.int i)] [.ref a1])) rfl rfl (hB d11_17)
  -- pc 21: java/lang/StringUTF16.charAt
  obtain ⟨_, _, ⟨T39, L39, k39, n39⟩, -, X39, ⟨Lc39, hQ39, l39, y39, z39⟩, st39⟩ := Jvm.LawKit.callS X38 hx (y := y7) hown (mvT hZ (W 103 rfl)) (mvT hZ (W 104 rfl)) (mvT hZ (W 40 rfl)) (mvT hZ (W 105 rfl)) (by decide) (backOf (W := 0) (rmuca l Z a0 G1 fm hG [] b kb z vs i cs K cz h0 n0 Z0 X00 V_b (by first | assumption | decide | rfl) (by first | assumption | decide | rfl) (by first | assumption | decide | rfl) (by first | assumption | decide | rfl) (by first | assumption | decide | rfl) (by first | assumption | decide | rfl)) hZ (W 105 rfl) (W 40 rfl) (by decide) (by decide)) (g := (mkF m 21 #[.val (.ref a1), .val (.int i)] [.int i, .ref b])) rfl (by rw [hml]; rfl) (argsL := [.ref b, .int i]) (rest := []) (lenOf pd___BI_C rfl) rfl (by show 2 * 0 + _ ≤ _; exact Nat.le_of_eq rfl) (hB d11_21) (fun _ _ => ⟨rfl, e38, (by decide : 0 + 0 ≤ _), (by decide : 0 + 0 ≤ _)⟩)
  dsimp only [Pt.U, Pt.locs, Pt.cells, Pt.slots] at X39 l39 y39 z39 st39 hQ39
  subst l39 y39 z39
  obtain ⟨rfl, N39q, eq39⟩ := hQ39
  have N39 := Fr.app N37 N39q
  obtain ⟨fs, hr, hrun, hended, hW, hsame⟩ := X39.leave (v := some (.int (nar .char cz))) (fun h => by rw [Bd.returns] at h; cases h)
  refine ⟨_, _, castTop (ef_jdk_42_method_56_code_RI m a1 i) ?_, hrun, hended, _, _, rfl, ?_, ⟨_, rfl⟩, hW, hsame.mono (own_ble rfl) (own_ble rfl)⟩
  · show Steps _ _ _ (s₁.setTop (mkF m 0 #[.val (.ref a1), .val (.int i)] [])) _
    refine XS.aloadN X0.here hx rfl (hB d11_0) rfl rfl ?_
    refine st37.trans ?_
    show Steps _ _ _ (T37.setTop (mkF m 4 #[.val (.ref a1), .val (.int i)] [.int 0])) _
    refine XS.ifYes X37.here hx rfl (pc0 := 4) (pc' := 16) rfl (hB d11_4) rfl ((if0 _ _).trans (teq (by decide : (0 : Int32) = (0 : Int32))).1) (by decide) (by decide) ?_
    refine XS.aloadN X37.here hx rfl (hB d11_16) rfl rfl ?_
    refine st38 _ ?_
    show Steps _ _ _ (T38.setTop (mkF m 20 #[.val (.ref a1), .val (.int i)] [.ref b])) _
    refine XS.iloadN X38.here hx rfl (hB d11_20) rfl ?_
    refine st39 _ ?_
    show Steps _ _ _ (T39.setTop (mkF m 24 #[.val (.ref a1), .val (.int i)] [.int cz])) _
    exact retN X39 hx (t := .char) Bd.returns (by simp) (hB d11_24) hr
  · show Qsca Z G1 fm a1 b kb cd z vs i cs K cz h0 n0 _ T39.heap _
    rw [eq39]
    exact ⟨(by rw [own_n16 (hu _ (own_mem hg))]), N39, rfl⟩
theorem rmsca (l : Launch) (Z : State) (a0 : Array Value) (G1 : Int32) (fm : Value) (hG : Glob Z a0 G1 fm) (ws : List Jvm.Cond) (a1 : Addr) (b : Addr) (kb : ClassId) (cd : Int32) (z : Int32) (vs : List Value) (i : Int32) (cs : List Int32) (K : Nat) (cz : Int32) (h0 : Heap) (n0 : Nat) (Z0 : n0 ≤ h0.size) (X00 : Old Z n0 h0) (E_a1 : Exa Z h0 a1 "java/lang/String") (F_coder_a1 : Fld Z h0 a1 "java/lang/String" "coder" "B" (.int cd)) (F_value_a1 : Fld Z h0 a1 "java/lang/String" "value" "[B" (.ref b)) (V_b : Arv Z h0 b kb .byte z vs (.int 0)) (hs : own_str cd z vs cs) (hn : cs.length < 5) (hu : ∀ c ∈ cs, own_u16 c) (hi : i = Int32.ofNat K) (hg : cs[K]? = some cz) :
    Met l Z h0 y11 jdk_42_method_56_code 2 (some .char) ws (Room.mk 4 0 0 53) #[.ref a1, .int i] (Qsca Z G1 fm a1 b kb cd z vs i cs K cz h0 n0) := by
  rcases hs with hL | ⟨e1, hz, hv⟩
  · exact rmsca_L l Z a0 G1 fm hG ws a1 b kb cd z vs i cs K cz h0 n0 Z0 X00 E_a1 F_coder_a1 F_value_a1 V_b (Or.inl hL) hn hu hi hg hL
  · exact rmsca_W l Z a0 G1 fm hG ws a1 b kb cd z vs i cs K cz h0 n0 Z0 X00 E_a1 F_coder_a1 F_value_a1 V_b (Or.inr ⟨e1, hz, hv⟩) hn hu hi hg (by rw [e1]; decide) hz hv
theorem d12_0 : decode jdk_52_method_21_code 0 = .ok (.iconst 0, 1) := by decide +kernel
theorem d12_1 : decode jdk_52_method_21_code 1 = .ok (.istore 5, 2) := by decide +kernel
theorem d12_3 : decode jdk_52_method_21_code 3 = .ok (.iload 5, 2) := by decide +kernel
theorem d12_5 : decode jdk_52_method_21_code 5 = .ok (.iload 4, 2) := by decide +kernel
theorem d12_7 : decode jdk_52_method_21_code 7 = .ok (.if_icmp .ge 37, 3) := by decide +kernel
theorem d12_10 : decode jdk_52_method_21_code 10 = .ok (.aload_n 0, 1) := by decide +kernel
theorem d12_11 : decode jdk_52_method_21_code 11 = .ok (.iload_n 1, 1) := by decide +kernel
theorem d12_12 : decode jdk_52_method_21_code 12 = .ok (.caload, 1) := by decide +kernel
theorem d12_13 : decode jdk_52_method_21_code 13 = .ok (.istore 6, 2) := by decide +kernel
theorem d12_15 : decode jdk_52_method_21_code 15 = .ok (.iload 6, 2) := by decide +kernel
theorem d12_17 : decode jdk_52_method_21_code 17 = .ok (.sipush 255, 3) := by decide +kernel
theorem d12_20 : decode jdk_52_method_21_code 20 = .ok (.if_icmp .le 6, 3) := by decide +kernel
theorem d12_26 : decode jdk_52_method_21_code 26 = .ok (.aload_n 2, 1) := by decide +kernel
theorem d12_27 : decode jdk_52_method_21_code 27 = .ok (.iload_n 3, 1) := by decide +kernel
theorem d12_28 : decode jdk_52_method_21_code 28 = .ok (.iload 6, 2) := by decide +kernel
theorem d12_30 : decode jdk_52_method_21_code 30 = .ok (.i2b, 1) := by decide +kernel
theorem d12_31 : decode jdk_52_method_21_code 31 = .ok (.bastore, 1) := by decide +kernel
theorem d12_32 : decode jdk_52_method_21_code 32 = .ok (.iinc 1 1, 3) := by decide +kernel
theorem d12_35 : decode jdk_52_method_21_code 35 = .ok (.iinc 3 1, 3) := by decide +kernel
theorem d12_38 : decode jdk_52_method_21_code 38 = .ok (.iinc 5 1, 3) := by decide +kernel
theorem d12_41 : decode jdk_52_method_21_code 41 = .ok (.goto (-38), 3) := by decide +kernel
theorem d12_44 : decode jdk_52_method_21_code 44 = .ok (.iload 4, 2) := by decide +kernel
theorem d12_46 : decode jdk_52_method_21_code 46 = .ok (.ireturn, 1) := by decide +kernel
def Qc5L1 (Z : State) (G1 : Int32) (fm : Value) (a1 : Addr) (a2 : Addr) (ka : ClassId) (kb : ClassId) (c0 : Int32) (h0 : Heap) (n0 : Nat) (v : Option Value) (h : Heap) (L : List Loc) : Prop := v = some (.int 1) ∧ Fr n0 L ∧ Keep h0 h [a2] ∧ Arv Z h a2 kb .byte (1 : Int32) [(.int ((c0.toInt8.toInt32).toInt8.toInt32))] (.int 0)
theorem ef_jdk_52_method_21_code_RIRII (m : MethodId) (x0 : Addr) (x1 : Int32) (x2 : Addr) (x3 : Int32) (x4 : Int32) : entryFrame m #[.ref x0, .int x1, .ref x2, .int x3, .int x4] 7 = mkF m 0 #[.val (.ref x0), .val (.int x1), .val (.ref x2), .val (.int x3), .val (.int x4), .unset, .unset] [] := by first | (simp [entryFrame, mkF, argsToLocals, Value.category]; done) | rfl
abbrev y12 : MethodName := ⟨"java/lang/StringUTF16", "compress", "([CI[BII)I"⟩
theorem rmc5L1 (l : Launch) (Z : State) (a0 : Array Value) (G1 : Int32) (fm : Value) (hG : Glob Z a0 G1 fm) (ws : List Jvm.Cond) (a1 : Addr) (a2 : Addr) (ka : ClassId) (kb : ClassId) (c0 : Int32) (h0 : Heap) (n0 : Nat) (Z0 : n0 ≤ h0.size) (X00 : Old Z n0 h0) (V_a1 : Arv Z h0 a1 ka .char (1 : Int32) [.int c0] (.int 0)) (V_a2 : Arv Z h0 a2 kb .byte (1 : Int32) [.int 0] (.int 0)) (g_a2 : n0 ≤ a2) (ne_a1_a2 : a1 ≠ a2) (hl0 : ¬ ((255 : Int32) < c0)) :
    Met l Z h0 y12 jdk_52_method_21_code 7 (some .int) ws (Room.mk 0 0 0 0) #[.ref a1, .int 0, .ref a2, .int 0, .int 1] (Qc5L1 Z G1 fm a1 a2 ka kb c0 h0 n0) := by
  obtain ⟨hw, O_cs, P_cs, O_as, O_hi, O_lo, O_fm, R_fm⟩ := id hG
  have W := @own_W _ _ hw
  refine own_go "java/lang/StringUTF16" rfl (plainFor_of_name pn_java_lang_StringUTF16) ?_
  intro p e s m below meth c s₁ Bd hx hby hml hown hnm X0 e0 hZ
  have hB := @hb _ _ hby
  have N0 := Fr.nil n0
  obtain ⟨clq40, Arq40, qaq40, Sq40, Nq40, Hq40, Gq40⟩ := id V_a1
  have hinq40 := inb_of (j := (0 : Int32)) Sq40 ⟨by decide, by decide⟩
  have hatq40 := Has.at (v := (.int c0)) Hq40 hinq40 rfl
  obtain ⟨clq41, Arq41, qaq41, Sq41, Nq41, Hq41, Gq41⟩ := id V_a2
  have hinq41 := inb_of (j := (0 : Int32)) Sq41 ⟨by decide, by decide⟩
  obtain ⟨T42, h42, X42, e42, W42, st42⟩ := stB X0 hx hZ e0 Arq41 (j := (0 : Int32)) hinq41 (g := (mkF m 31 #[.val (.ref a1), .val (.int 0), .val (.ref a2), .val (.int 0), .val (.int 1), .val (.int 0), .val (.int c0)] [(.int (c0.toInt8.toInt32)), .int 0, .ref a2])) rfl rfl (hB d12_31)
  have V42 : Arv Z h42 a2 kb .byte (1 : Int32) [(.int ((c0.toInt8.toInt32).toInt8.toInt32))] (.int 0) := Arv.set Arq41 qaq41 Sq41 Nq41 Hq41 Gq41 (fits_nar_byte _) W42 0 rfl (own_ble rfl)
  have Z43 : n0 ≤ h42.size := Nat.le_trans Z0 (Keep.of_wr W42).1
  have K0_43 : Keep h0 h42 [a2] := (Keep.refl h0 [a2]).wr W42 (Or.inl (List.mem_of_getElem? (i := 0) rfl))
  have O43 : Old Z n0 h42 := X00.wr W42 g_a2
  have N42 := Fr.snoc X42 N0 g_a2
  obtain ⟨fs, hr, hrun, hended, hW, hsame⟩ := X42.leave (v := some (.int 1)) (fun h => by rw [Bd.returns] at h; cases h)
  refine ⟨_, _, castTop (ef_jdk_52_method_21_code_RIRII m a1 (0 : Int32) a2 (0 : Int32) (1 : Int32)) ?_, hrun, hended, _, _, rfl, ?_, ⟨_, rfl⟩, hW, hsame.mono (own_ble rfl) (own_ble rfl)⟩
  · show Steps _ _ _ (s₁.setTop (mkF m 0 #[.val (.ref a1), .val (.int 0), .val (.ref a2), .val (.int 0), .val (.int 1), .unset, .unset] [])) _
    refine XS.iconst X0.here hx rfl (hB d12_0) ?_
    refine XS.istore X0.here hx rfl (hB d12_1) rfl (l' := #[.val (.ref a1), .val (.int 0), .val (.ref a2), .val (.int 0), .val (.int 1), .val (.int 0), .unset]) rfl ?_
    refine XS.iload X0.here hx rfl (hB d12_3) rfl ?_
    refine XS.iload X0.here hx rfl (hB d12_5) rfl ?_
    refine XS.icmpNo X0.here hx rfl (hB d12_7) rfl (tlt (by decide : (0 : Int32) < (1 : Int32))).2.1 ?_
    refine XS.aloadN X0.here hx rfl (hB d12_10) rfl rfl ?_
    refine XS.iloadN X0.here hx rfl (hB d12_11) rfl ?_
    refine X0.caload hx (j := (0 : Int32)) (v := (.int c0)) (own_cell e0 Arq40.1) (State.isArrayOf_alike hZ.alike Arq40.2.1) Arq40.2.2 hinq40 hatq40 (g := (mkF m 12 #[.val (.ref a1), .val (.int 0), .val (.ref a2), .val (.int 0), .val (.int 1), .val (.int 0), .unset] [.int 0, .ref a1])) rfl rfl (hB d12_12) _ ?_
    refine XS.istore X0.here hx rfl (hB d12_13) rfl (l' := #[.val (.ref a1), .val (.int 0), .val (.ref a2), .val (.int 0), .val (.int 1), .val (.int 0), .val (.int c0)]) rfl ?_
    refine XS.iload X0.here hx rfl (hB d12_15) rfl ?_
    refine XS.sipush X0.here hx rfl (hB d12_17) ?_
    refine XS.icmpYes X0.here hx rfl (pc0 := 20) (pc' := 26) rfl (hB d12_20) rfl (flt (hl0 : ¬ ((255 : Int32) < c0))).2.2.2 (by decide) (by decide) ?_
    refine XS.aloadN X0.here hx rfl (hB d12_26) rfl rfl ?_
    refine XS.iloadN X0.here hx rfl (hB d12_27) rfl ?_
    refine XS.iload X0.here hx rfl (hB d12_28) rfl ?_
    refine XS.i2b X0.here hx rfl (hB d12_30) rfl ?_
    show Steps _ _ _ (s₁.setTop (mkF m 31 #[.val (.ref a1), .val (.int 0), .val (.ref a2), .val (.int 0), .val (.int 1), .val (.int 0), .val (.int c0)] [(.int (c0.toInt8.toInt32)), .int 0, .ref a2])) _
    refine st42 _ ?_
    show Steps _ _ _ (T42.setTop (mkF m 32 #[.val (.ref a1), .val (.int 0), .val (.ref a2), .val (.int 0), .val (.int 1), .val (.int 0), .val (.int c0)] [])) _
    refine XS.iinc X42.here hx rfl (hB d12_32) rfl (l' := #[.val (.ref a1), .val (.int 1), .val (.ref a2), .val (.int 0), .val (.int 1), .val (.int 0), .val (.int c0)]) rfl ?_
    refine XS.iinc X42.here hx rfl (hB d12_35) rfl (l' := #[.val (.ref a1), .val (.int 1), .val (.ref a2), .val (.int 1), .val (.int 1), .val (.int 0), .val (.int c0)]) rfl ?_
    refine XS.iinc X42.here hx rfl (hB d12_38) rfl (l' := #[.val (.ref a1), .val (.int 1), .val (.ref a2), .val (.int 1), .val (.int 1), .val (.int 1), .val (.int c0)]) rfl ?_
    refine XS.goto X42.here hx rfl (pc0 := 41) (pc' := 3) rfl (hB d12_41) (by decide) (by decide) ?_
    refine XS.iload X42.here hx rfl (hB d12_3) rfl ?_
    refine XS.iload X42.here hx rfl (hB d12_5) rfl ?_
    refine XS.icmpYes X42.here hx rfl (pc0 := 7) (pc' := 44) rfl (hB d12_7) rfl (flt (by decide : ¬ ((1 : Int32) < (1 : Int32)))).2.1 (by decide) (by decide) ?_
    refine XS.iload X42.here hx rfl (hB d12_44) rfl ?_
    exact retOut X42 hx Bd.returns rfl (Or.inl ⟨rfl, Or.inl rfl, _, rfl⟩) (hB d12_46) hr
  · show Qc5L1 Z G1 fm a1 a2 ka kb c0 h0 n0 _ T42.heap _
    rw [e42]
    exact ⟨rfl, N42, K0_43, V42⟩
theorem d12_23 : decode jdk_52_method_21_code 23 = .ok (.iload 5, 2) := by decide +kernel
theorem d12_25 : decode jdk_52_method_21_code 25 = .ok (.ireturn, 1) := by decide +kernel
def Qc5W1 (Z : State) (G1 : Int32) (fm : Value) (a1 : Addr) (a2 : Addr) (ka : ClassId) (kb : ClassId) (c0 : Int32) (h0 : Heap) (n0 : Nat) (v : Option Value) (h : Heap) (L : List Loc) : Prop := ∃ j : Int32, v = some (.int j) ∧ Fr n0 L ∧ Keep h0 h [a2] ∧ own_first j [c0]
theorem rmc5W1_0 (l : Launch) (Z : State) (a0 : Array Value) (G1 : Int32) (fm : Value) (hG : Glob Z a0 G1 fm) (ws : List Jvm.Cond) (a1 : Addr) (a2 : Addr) (ka : ClassId) (kb : ClassId) (c0 : Int32) (h0 : Heap) (n0 : Nat) (Z0 : n0 ≤ h0.size) (X00 : Old Z n0 h0) (V_a1 : Arv Z h0 a1 ka .char (1 : Int32) [.int c0] (.int 0)) (V_a2 : Arv Z h0 a2 kb .byte (1 : Int32) [.int 0] (.int 0)) (g_a2 : n0 ≤ a2) (ne_a1_a2 : a1 ≠ a2) (hwid : ¬ (¬ ((255 : Int32) < c0))) (hwd : (255 : Int32) < c0) :
    Met l Z h0 y12 jdk_52_method_21_code 7 (some .int) ws (Room.mk 0 0 0 0) #[.ref a1, .int 0, .ref a2, .int 0, .int 1] (Qc5W1 Z G1 fm a1 a2 ka kb c0 h0 n0) := by
  obtain ⟨hw, O_cs, P_cs, O_as, O_hi, O_lo, O_fm, R_fm⟩ := id hG
  have W := @own_W _ _ hw
  refine own_go "java/lang/StringUTF16" rfl (plainFor_of_name pn_java_lang_StringUTF16) ?_
  intro p e s m below meth c s₁ Bd hx hby hml hown hnm X0 e0 hZ
  have hB := @hb _ _ hby
  have N0 := Fr.nil n0
  obtain ⟨clq44, Arq44, qaq44, Sq44, Nq44, Hq44, Gq44⟩ := id V_a1
  have hinq44 := inb_of (j := (0 : Int32)) Sq44 ⟨by decide, by decide⟩
  have hatq44 := Has.at (v := (.int c0)) Hq44 hinq44 rfl
  obtain ⟨fs, hr, hrun, hended, hW, hsame⟩ := X0.leave (v := some (.int 0)) (fun h => by rw [Bd.returns] at h; cases h)
  refine ⟨_, _, castTop (ef_jdk_52_method_21_code_RIRII m a1 (0 : Int32) a2 (0 : Int32) (1 : Int32)) ?_, hrun, hended, _, _, rfl, ?_, ⟨_, rfl⟩, hW, hsame.mono (own_ble rfl) (own_ble rfl)⟩
  · show Steps _ _ _ (s₁.setTop (mkF m 0 #[.val (.ref a1), .val (.int 0), .val (.ref a2), .val (.int 0), .val (.int 1), .unset, .unset] [])) _
    refine XS.iconst X0.here hx rfl (hB d12_0) ?_
    refine XS.istore X0.here hx rfl (hB d12_1) rfl (l' := #[.val (.ref a1), .val (.int 0), .val (.ref a2), .val (.int 0), .val (.int 1), .val (.int 0), .unset]) rfl ?_
    refine XS.iload X0.here hx rfl (hB d12_3) rfl ?_
    refine XS.iload X0.here hx rfl (hB d12_5) rfl ?_
    refine XS.icmpNo X0.here hx rfl (hB d12_7) rfl (tlt (by decide : (0 : Int32) < (1 : Int32))).2.1 ?_
    refine XS.aloadN X0.here hx rfl (hB d12_10) rfl rfl ?_
    refine XS.iloadN X0.here hx rfl (hB d12_11) rfl ?_
    refine X0.caload hx (j := (0 : Int32)) (v := (.int c0)) (own_cell e0 Arq44.1) (State.isArrayOf_alike hZ.alike Arq44.2.1) Arq44.2.2 hinq44 hatq44 (g := (mkF m 12 #[.val (.ref a1), .val (.int 0), .val (.ref a2), .val (.int 0), .val (.int 1), .val (.int 0), .unset] [.int 0, .ref a1])) rfl rfl (hB d12_12) _ ?_
    refine XS.istore X0.here hx rfl (hB d12_13) rfl (l' := #[.val (.ref a1), .val (.int 0), .val (.ref a2), .val (.int 0), .val (.int 1), .val (.int 0), .val (.int c0)]) rfl ?_
    refine XS.iload X0.here hx rfl (hB d12_15) rfl ?_
    refine XS.sipush X0.here hx rfl (hB d12_17) ?_
    refine XS.icmpNo X0.here hx rfl (hB d12_20) rfl (tlt (hwd : (255 : Int32) < c0)).2.2.2 ?_
    refine XS.iload X0.here hx rfl (hB d12_23) rfl ?_
    exact retOut X0 hx Bd.returns rfl (Or.inl ⟨rfl, Or.inl rfl, _, rfl⟩) (hB d12_25) hr
  · show Qc5W1 Z G1 fm a1 a2 ka kb c0 h0 n0 _ s₁.heap _
    rw [e0]
    exact ⟨(0 : Int32), rfl, N0, (Keep.refl h0 [a2]), ⟨0, c0, rfl, rfl, hwd⟩⟩
theorem rmc5W1 (l : Launch) (Z : State) (a0 : Array Value) (G1 : Int32) (fm : Value) (hG : Glob Z a0 G1 fm) (ws : List Jvm.Cond) (a1 : Addr) (a2 : Addr) (ka : ClassId) (kb : ClassId) (c0 : Int32) (h0 : Heap) (n0 : Nat) (Z0 : n0 ≤ h0.size) (X00 : Old Z n0 h0) (V_a1 : Arv Z h0 a1 ka .char (1 : Int32) [.int c0] (.int 0)) (V_a2 : Arv Z h0 a2 kb .byte (1 : Int32) [.int 0] (.int 0)) (g_a2 : n0 ≤ a2) (ne_a1_a2 : a1 ≠ a2) (hwid : ¬ (¬ ((255 : Int32) < c0))) :
    Met l Z h0 y12 jdk_52_method_21_code 7 (some .int) ws (Room.mk 0 0 0 0) #[.ref a1, .int 0, .ref a2, .int 0, .int 1] (Qc5W1 Z G1 fm a1 a2 ka kb c0 h0 n0) := by
  by_cases q0 : (255 : Int32) < c0
  · exact rmc5W1_0 l Z a0 G1 fm hG ws a1 a2 ka kb c0 h0 n0 Z0 X00 V_a1 V_a2 g_a2 ne_a1_a2 hwid q0
  exact absurd q0 hwid
theorem d13_0 : decode jdk_52_method_3_code 0 = .ok (.iload_n 0, 1) := by decide +kernel
theorem d13_1 : decode jdk_52_method_3_code 1 = .ok (.ifCond .ge 11, 3) := by decide +kernel
theorem d13_12 : decode jdk_52_method_3_code 12 = .ok (.iload_n 0, 1) := by decide +kernel
theorem d13_13 : decode jdk_52_method_3_code 13 = .ok (.ldc 20, 2) := by decide +kernel
theorem d13_15 : decode jdk_52_method_3_code 15 = .ok (.if_icmp .lt 40, 3) := by decide +kernel
theorem d13_55 : decode jdk_52_method_3_code 55 = .ok (.iload_n 0, 1) := by decide +kernel
theorem d13_56 : decode jdk_52_method_3_code 56 = .ok (.iconst 1, 1) := by decide +kernel
theorem d13_57 : decode jdk_52_method_3_code 57 = .ok (.ishl, 1) := by decide +kernel
theorem d13_58 : decode jdk_52_method_3_code 58 = .ok (.ireturn, 1) := by decide +kernel
def Qnbl1 (Z : State) (G1 : Int32) (fm : Value) (h0 : Heap) (n0 : Nat) (v : Option Value) (h : Heap) (L : List Loc) : Prop := v = some (.int 2) ∧ Fr n0 L ∧ h = h0
theorem ef_jdk_52_method_3_code_I (m : MethodId) (x0 : Int32) : entryFrame m #[.int x0] 1 = mkF m 0 #[.val (.int x0)] [] := by first | (simp [entryFrame, mkF, argsToLocals, Value.category]; done) | rfl
abbrev y13 : MethodName := ⟨"java/lang/StringUTF16", "newBytesLength", "(I)I"⟩
theorem rmnbl1 (l : Launch) (Z : State) (a0 : Array Value) (G1 : Int32) (fm : Value) (hG : Glob Z a0 G1 fm) (ws : List Jvm.Cond) (h0 : Heap) (n0 : Nat) (Z0 : n0 ≤ h0.size) (X00 : Old Z n0 h0) :
    Met l Z h0 y13 jdk_52_method_3_code 1 (some .int) ws (Room.mk 0 0 0 0) #[.int 1] (Qnbl1 Z G1 fm h0 n0) := by
  obtain ⟨hw, O_cs, P_cs, O_as, O_hi, O_lo, O_fm, R_fm⟩ := id hG
  have W := @own_W _ _ hw
  refine own_go "java/lang/StringUTF16" rfl (plainFor_of_name pn_java_lang_StringUTF16) ?_
  intro p e s m below meth c s₁ Bd hx hby hml hown hnm X0 e0 hZ
  have hB := @hb _ _ hby
  have N0 := Fr.nil n0
  obtain ⟨fs, hr, hrun, hended, hW, hsame⟩ := X0.leave (v := some (.int 2)) (fun h => by rw [Bd.returns] at h; cases h)
  refine ⟨_, _, castTop (ef_jdk_52_method_3_code_I m (1 : Int32)) ?_, hrun, hended, _, _, rfl, ?_, ⟨_, rfl⟩, hW, hsame.mono (own_ble rfl) (own_ble rfl)⟩
  · show Steps _ _ _ (s₁.setTop (mkF m 0 #[.val (.int 1)] [])) _
    refine XS.iloadN X0.here hx rfl (hB d13_0) rfl ?_
    refine XS.ifYes X0.here hx rfl (pc0 := 1) (pc' := 12) rfl (hB d13_1) rfl ((if0 _ _).trans (flt (by decide : ¬ ((1 : Int32) < (0 : Int32)))).2.1) (by decide) (by decide) ?_
    refine XS.iloadN X0.here hx rfl (hB d13_12) rfl ?_
    refine X0.ldcInt hx hown (mvT hZ (W 93 rfl)) (g := (mkF m 13 #[.val (.int 1)] [.int 1])) rfl (hB d13_13) _ ?_
    refine XS.icmpYes X0.here hx rfl (pc0 := 15) (pc' := 55) rfl (hB d13_15) rfl (tlt (by decide : (1 : Int32) < (1073741823 : Int32))).1 (by decide) (by decide) ?_
    refine XS.iloadN X0.here hx rfl (hB d13_55) rfl ?_
    refine XS.iconst X0.here hx rfl (hB d13_56) ?_
    refine XS.ishl X0.here hx rfl (hB d13_57) rfl ?_
    exact retOut X0 hx Bd.returns rfl (Or.inl ⟨rfl, Or.inl rfl, _, rfl⟩) (hB d13_58) hr
  · show Qnbl1 Z G1 fm h0 n0 _ s₁.heap _
    rw [e0]
    exact ⟨rfl, N0, rfl⟩
theorem d14_0 : decode jdk_52_method_2_code 0 = .ok (.iload_n 0, 1) := by decide +kernel
theorem d14_1 : decode jdk_52_method_2_code 1 = .ok (.invokestatic 11, 3) := by decide +kernel
theorem pd__I_I : parseMethodDescriptor "(I)I" = some ⟨[.int], some .int⟩ := by decide +kernel
theorem d14_4 : decode jdk_52_method_2_code 4 = .ok (.newarray .byte, 2) := by decide +kernel
theorem d14_6 : decode jdk_52_method_2_code 6 = .ok (.areturn, 1) := by decide +kernel
def Qnbf1 (Z : State) (G1 : Int32) (fm : Value) (h0 : Heap) (n0 : Nat) (v : Option Value) (h : Heap) (L : List Loc) : Prop := ∃ b : Addr, ∃ kb : ClassId, v = some (.ref b) ∧ Fr n0 L ∧ Keep h0 h [] ∧ h0.size ≤ b ∧ Arv Z h b kb .byte (2 : Int32) [.int 0, .int 0] (.int 0)
theorem ef_jdk_52_method_2_code_I (m : MethodId) (x0 : Int32) : entryFrame m #[.int x0] 1 = mkF m 0 #[.val (.int x0)] [] := by first | (simp [entryFrame, mkF, argsToLocals, Value.category]; done) | rfl
abbrev y14 : MethodName := ⟨"java/lang/StringUTF16", "newBytesFor", "(I)[B"⟩
theorem rmnbf1 (l : Launch) (Z : State) (a0 : Array Value) (G1 : Int32) (fm : Value) (hG : Glob Z a0 G1 fm) (ws : List Jvm.Cond) (h0 : Heap) (n0 : Nat) (Z0 : n0 ≤ h0.size) (X00 : Old Z n0 h0) :
    Met l Z h0 y14 jdk_52_method_2_code 1 (some (.array .byte)) ws (Room.mk 1 1 2 12) #[.int 1] (Qnbf1 Z G1 fm h0 n0) := by
  obtain ⟨hw, O_cs, P_cs, O_as, O_hi, O_lo, O_fm, R_fm⟩ := id hG
  have W := @own_W _ _ hw
  refine own_go "java/lang/StringUTF16" rfl (plainFor_of_name pn_java_lang_StringUTF16) ?_
  intro p e s m below meth c s₁ Bd hx hby hml hown hnm X0 e0 hZ
  have hB := @hb _ _ hby
  have N0 := Fr.nil n0
  -- pc 1: java/lang/StringUTF16.newBytesLength
  obtain ⟨_, _, ⟨T45, L45, k45, n45⟩, -, X45, ⟨Lc45, hQ45, l45, y45, z45⟩, st45⟩ := Jvm.LawKit.callS X0 hx (y := y13) hown (mvT hZ (W 90 rfl)) (mvT hZ (W 91 rfl)) (mvT hZ (W 40 rfl)) (mvT hZ (W 92 rfl)) (by decide) (backOf (W := 0) (rmnbl1 l Z a0 G1 fm hG [] h0 n0 Z0 X00) hZ (W 92 rfl) (W 40 rfl) (by decide) (by decide)) (g := (mkF m 1 #[.val (.int 1)] [.int 1])) rfl (by rw [hml]; rfl) (argsL := [.int 1]) (rest := []) (lenOf pd__I_I rfl) rfl (by show 2 * 0 + _ ≤ _; exact Nat.le_of_eq rfl) (hB d14_1) (fun _ _ => ⟨rfl, e0, (by decide : 0 + 0 ≤ _), (by decide : 0 + 0 ≤ _)⟩)
  dsimp only [Pt.U, Pt.locs, Pt.cells, Pt.slots] at X45 l45 y45 z45 st45 hQ45
  subst l45 y45 z45
  obtain ⟨rfl, N45q, eq45⟩ := hQ45
  have N45 := Fr.app N0 N45q
  obtain ⟨T46, h46, k46, X46, e46, E46, A46, Q46, st46⟩ := newPE X45 hx hZ (W 16 rfl) eq45 (g := (mkF m 4 #[.val (.int 1)] [.int 2])) rfl (hB d14_4) rfl (by decide) (cap := 2) (by decide) (by decide) (by decide) (by decide) (ad := "[B") rfl
  obtain ⟨b46, g46⟩ : ∃ z, z = h0.size := ⟨_, rfl⟩
  rw [← g46] at A46 Q46 st46
  have Z47 : n0 ≤ h46.size := Nat.le_trans Z0 E46.1
  have K0_47 : Keep h0 h46 [] := (Keep.refl h0 []).ext E46
  have O47 : Old Z n0 h46 := X00.ext E46
  have lo_b46 : h0.size ≤ b46 := Nat.le_of_eq g46.symm
  have g_b46 : n0 ≤ b46 := Nat.le_trans Z0 lo_b46
  have l0_b46 : h0.size ≤ b46 := Nat.le_trans (Keep.refl h0 []).1 lo_b46
  have V_b46 : Arv Z h46 b46 k46 .byte (2 : Int32) [.int 0, .int 0] (.int 0) := (Arv.new A46 (by decide)).pad (pad_rep [] (.int 0) 2)
  obtain ⟨fs, hr, hrun, hended, hW, hsame⟩ := X46.leave (v := some (.ref b46)) (fun h => by rw [Bd.returns] at h; cases h)
  refine ⟨_, _, castTop (ef_jdk_52_method_2_code_I m (1 : Int32)) ?_, hrun, hended, _, _, rfl, ?_, ⟨_, rfl⟩, hW, hsame.mono (own_ble rfl) (own_ble rfl)⟩
  · show Steps _ _ _ (s₁.setTop (mkF m 0 #[.val (.int 1)] [])) _
    refine XS.iloadN X0.here hx rfl (hB d14_0) rfl ?_
    refine st45 _ ?_
    show Steps _ _ _ (T45.setTop (mkF m 4 #[.val (.int 1)] [.int 2])) _
    refine st46 _ ?_
    show Steps _ _ _ (T46.setTop (mkF m 6 #[.val (.int 1)] [.ref b46])) _
    exact retOut X46 hx Bd.returns rfl (Or.inr (Or.inr (Or.inr (Or.inr ⟨rfl, rfl, rfl⟩)))) (hB d14_6) hr
  · show Qnbf1 Z G1 fm h0 n0 _ T46.heap _
    rw [e46]
    exact ⟨b46, k46, rfl, N45, K0_47, l0_b46, V_b46⟩
theorem d15_0 : decode jdk_52_method_14_code 0 = .ok (.iload_n 2, 1) := by decide +kernel
theorem d15_1 : decode jdk_52_method_14_code 1 = .ok (.invokestatic 107, 3) := by decide +kernel
theorem pd__I__B : parseMethodDescriptor "(I)[B" = some ⟨[.int], some (.array .byte)⟩ := by decide +kernel
theorem d15_4 : decode jdk_52_method_14_code 4 = .ok (.astore_n 3, 1) := by decide +kernel
theorem d15_5 : decode jdk_52_method_14_code 5 = .ok (.iconst 0, 1) := by decide +kernel
theorem d15_6 : decode jdk_52_method_14_code 6 = .ok (.istore 4, 2) := by decide +kernel
theorem d15_8 : decode jdk_52_method_14_code 8 = .ok (.iload 4, 2) := by decide +kernel
theorem d15_10 : decode jdk_52_method_14_code 10 = .ok (.iload_n 2, 1) := by decide +kernel
theorem d15_11 : decode jdk_52_method_14_code 11 = .ok (.if_icmp .ge 21, 3) := by decide +kernel
theorem d15_14 : decode jdk_52_method_14_code 14 = .ok (.aload_n 3, 1) := by decide +kernel
theorem d15_15 : decode jdk_52_method_14_code 15 = .ok (.iload 4, 2) := by decide +kernel
theorem d15_17 : decode jdk_52_method_14_code 17 = .ok (.aload_n 0, 1) := by decide +kernel
theorem d15_18 : decode jdk_52_method_14_code 18 = .ok (.iload_n 1, 1) := by decide +kernel
theorem d15_19 : decode jdk_52_method_14_code 19 = .ok (.caload, 1) := by decide +kernel
theorem d15_20 : decode jdk_52_method_14_code 20 = .ok (.invokestatic 111, 3) := by decide +kernel
theorem pd___BII_V : parseMethodDescriptor "([BII)V" = some ⟨[(.array .byte), .int, .int], none⟩ := by decide +kernel
theorem d15_23 : decode jdk_52_method_14_code 23 = .ok (.iinc 1 1, 3) := by decide +kernel
theorem d15_26 : decode jdk_52_method_14_code 26 = .ok (.iinc 4 1, 3) := by decide +kernel
theorem d15_29 : decode jdk_52_method_14_code 29 = .ok (.goto (-21), 3) := by decide +kernel
theorem d15_32 : decode jdk_52_method_14_code 32 = .ok (.aload_n 3, 1) := by decide +kernel
theorem d15_33 : decode jdk_52_method_14_code 33 = .ok (.areturn, 1) := by decide +kernel
def Qtob1 (Z : State) (G1 : Int32) (fm : Value) (a1 : Addr) (ka : ClassId) (c0 : Int32) (h0 : Heap) (n0 : Nat) (v : Option Value) (h : Heap) (L : List Loc) : Prop := ∃ b : Addr, ∃ kb : ClassId, v = some (.ref b) ∧ Fr n0 L ∧ Keep h0 h [] ∧ h0.size ≤ b ∧ Arv Z h b kb .byte (2 : Int32) [(.int (((c0 >>> ((0 : Int32) &&& 31)).toInt8.toInt32).toInt8.toInt32)), (.int (((c0 >>> ((8 : Int32) &&& 31)).toInt8.toInt32).toInt8.toInt32))] (.int 0)
theorem ef_jdk_52_method_14_code_RII (m : MethodId) (x0 : Addr) (x1 : Int32) (x2 : Int32) : entryFrame m #[.ref x0, .int x1, .int x2] 5 = mkF m 0 #[.val (.ref x0), .val (.int x1), .val (.int x2), .unset, .unset] [] := by first | (simp [entryFrame, mkF, argsToLocals, Value.category]; done) | rfl
abbrev y15 : MethodName := ⟨"java/lang/StringUTF16", "toBytes", "([CII)[B"⟩
theorem rmtob1 (l : Launch) (Z : State) (a0 : Array Value) (G1 : Int32) (fm : Value) (hG : Glob Z a0 G1 fm) (ws : List Jvm.Cond) (a1 : Addr) (ka : ClassId) (c0 : Int32) (h0 : Heap) (n0 : Nat) (Z0 : n0 ≤ h0.size) (X00 : Old Z n0 h0) (V_a1 : Arv Z h0 a1 ka .char (1 : Int32) [.int c0] (.int 0)) :
    Met l Z h0 y15 jdk_52_method_14_code 5 (some (.array .byte)) ws (Room.mk 2 1 2 24) #[.ref a1, .int 0, .int 1] (Qtob1 Z G1 fm a1 ka c0 h0 n0) := by
  obtain ⟨hw, O_cs, P_cs, O_as, O_hi, O_lo, O_fm, R_fm⟩ := id hG
  have W := @own_W _ _ hw
  refine own_go "java/lang/StringUTF16" rfl (plainFor_of_name pn_java_lang_StringUTF16) ?_
  intro p e s m below meth c s₁ Bd hx hby hml hown hnm X0 e0 hZ
  have hB := @hb _ _ hby
  have N0 := Fr.nil n0
  -- pc 1: java/lang/StringUTF16.newBytesFor
  obtain ⟨_, _, ⟨T48, L48, k48, n48⟩, -, X48, ⟨Lc48, hQ48, l48, y48, z48⟩, st48⟩ := Jvm.LawKit.callS X0 hx (y := y14) hown (mvT hZ (W 87 rfl)) (mvT hZ (W 88 rfl)) (mvT hZ (W 40 rfl)) (mvT hZ (W 89 rfl)) (by decide) (backOf (W := 0) (rmnbf1 l Z a0 G1 fm hG [] h0 n0 Z0 X00) hZ (W 89 rfl) (W 40 rfl) (by decide) (by decide)) (g := (mkF m 1 #[.val (.ref a1), .val (.int 0), .val (.int 1), .unset, .unset] [.int 1])) rfl (by rw [hml]; rfl) (argsL := [.int 1]) (rest := []) (lenOf pd__I__B rfl) rfl (by show 2 * 0 + _ ≤ _; exact Nat.le_of_eq rfl) (hB d15_1) (fun _ _ => ⟨rfl, e0, (by decide : 0 + 1 ≤ _), (by decide : 0 + 2 ≤ _)⟩)
  dsimp only [Pt.U, Pt.locs, Pt.cells, Pt.slots] at X48 l48 y48 z48 st48 hQ48
  subst l48 y48 z48
  obtain ⟨b_48, kb_48, rfl, N48q, K48, f48_0, f48_1⟩ := hQ48
  have N48 := Fr.app N0 N48q
  have Z49 : n0 ≤ T48.heap.size := Nat.le_trans Z0 K48.1
  have K0_49 : Keep h0 T48.heap [] := (Keep.refl h0 []).trans K48 all0
  have O49 : Old Z n0 T48.heap := X00.keep K48 all0
  have lo_b_48 : h0.size ≤ b_48 := f48_0
  have g_b_48 : n0 ≤ b_48 := Nat.le_trans Z0 lo_b_48
  have l0_b_48 : h0.size ≤ b_48 := Nat.le_trans (Keep.refl h0 []).1 lo_b_48
  have f50 := (V_a1.keep K48 nin0)
  obtain ⟨clq51, Arq51, qaq51, Sq51, Nq51, Hq51, Gq51⟩ := id f50
  have hinq51 := inb_of (j := (0 : Int32)) Sq51 ⟨by decide, by decide⟩
  have hatq51 := Has.at (v := (.int c0)) Hq51 hinq51 rfl
  -- pc 20: java/lang/StringUTF16.putChar
  obtain ⟨_, _, ⟨T52, L52, k52, n52⟩, -, X52, ⟨Lc52, hQ52, l52, y52, z52⟩, st52⟩ := Jvm.LawKit.callS X48 hx (y := y1) hown (mvT hZ (W 94 rfl)) (mvT hZ (W 95 rfl)) (mvT hZ (W 40 rfl)) (mvT hZ (W 96 rfl)) (by decide) (backOf (W := 0) (rmput l Z a0 G1 fm hG [] b_48 kb_48 (2 : Int32) ([.int 0, .int 0] : List Value) (0 : Int32) 0 c0 T48.heap n0 Z49 O49 f48_1 g_b_48 (by decide) (by decide) (own_ble rfl) (by decide) (by decide) (own_ble rfl)) hZ (W 96 rfl) (W 40 rfl) (by decide) (by decide)) (g := (mkF m 20 #[.val (.ref a1), .val (.int 0), .val (.int 1), .val (.ref b_48), .val (.int 0)] [.int c0, .int 0, .ref b_48])) rfl (by rw [hml]; rfl) (argsL := [.ref b_48, .int 0, .int c0]) (rest := []) (lenOf pd___BII_V rfl) rfl (by show 2 * 0 + _ ≤ _; exact Nat.le_of_eq rfl) (hB d15_20) (fun _ _ => ⟨rfl, rfl, (by decide : 1 + 0 ≤ _), (by decide : 2 + 0 ≤ _)⟩)
  dsimp only [Pt.U, Pt.locs, Pt.cells, Pt.slots] at X52 l52 y52 z52 st52 hQ52
  subst l52 y52 z52
  obtain ⟨rfl, N52q, K52, f52_0⟩ := hQ52
  have N52 := Fr.app N48 N52q
  have Z53 : n0 ≤ T52.heap.size := Nat.le_trans Z49 K52.1
  have K0_53 : Keep h0 T52.heap [] := K0_49.trans K52 (allS (Or.inr l0_b_48) all0)
  have O53 : Old Z n0 T52.heap := O49.keep K52 (allS g_b_48 all0)
  have cv52 : Arv Z T52.heap b_48 kb_48 .byte (2 : Int32) [(.int (((c0 >>> ((0 : Int32) &&& 31)).toInt8.toInt32).toInt8.toInt32)), (.int (((c0 >>> ((8 : Int32) &&& 31)).toInt8.toInt32).toInt8.toInt32))] (.int 0) := f52_0
  obtain ⟨fs, hr, hrun, hended, hW, hsame⟩ := X52.leave (v := some (.ref b_48)) (fun h => by rw [Bd.returns] at h; cases h)
  refine ⟨_, _, castTop (ef_jdk_52_method_14_code_RII m a1 (0 : Int32) (1 : Int32)) ?_, hrun, hended, _, _, rfl, ?_, ⟨_, rfl⟩, hW, hsame.mono (own_ble rfl) (own_ble rfl)⟩
  · show Steps _ _ _ (s₁.setTop (mkF m 0 #[.val (.ref a1), .val (.int 0), .val (.int 1), .unset, .unset] [])) _
    refine XS.iloadN X0.here hx rfl (hB d15_0) rfl ?_
    refine st48 _ ?_
    show Steps _ _ _ (T48.setTop (mkF m 4 #[.val (.ref a1), .val (.int 0), .val (.int 1), .unset, .unset] [.ref b_48])) _
    refine XS.astoreN X48.here hx rfl (hB d15_4) rfl rfl (l' := #[.val (.ref a1), .val (.int 0), .val (.int 1), .val (.ref b_48), .unset]) rfl ?_
    refine XS.iconst X48.here hx rfl (hB d15_5) ?_
    refine XS.istore X48.here hx rfl (hB d15_6) rfl (l' := #[.val (.ref a1), .val (.int 0), .val (.int 1), .val (.ref b_48), .val (.int 0)]) rfl ?_
    refine XS.iload X48.here hx rfl (hB d15_8) rfl ?_
    refine XS.iloadN X48.here hx rfl (hB d15_10) rfl ?_
    refine XS.icmpNo X48.here hx rfl (hB d15_11) rfl (tlt (by decide : (0 : Int32) < (1 : Int32))).2.1 ?_
    refine XS.aloadN X48.here hx rfl (hB d15_14) rfl rfl ?_
    refine XS.iload X48.here hx rfl (hB d15_15) rfl ?_
    refine XS.aloadN X48.here hx rfl (hB d15_17) rfl rfl ?_
    refine XS.iloadN X48.here hx rfl (hB d15_18) rfl ?_
    refine X48.caload hx (j := (0 : Int32)) (v := (.int c0)) (own_cell rfl Arq51.1) (State.isArrayOf_alike hZ.alike Arq51.2.1) Arq51.2.2 hinq51 hatq51 (g := (mkF m 19 #[.val (.ref a1), .val (.int 0), .val (.int 1), .val (.ref b_48), .val (.int 0)] [.int 0, .ref a1, .int 0, .ref b_48])) rfl rfl (hB d15_19) _ ?_
    refine st52 _ ?_
    show Steps _ _ _ (T52.setTop (mkF m 23 #[.val (.ref a1), .val (.int 0), .val (.int 1), .val (.ref b_48), .val (.int 0)] [])) _
    refine XS.iinc X52.here hx rfl (hB d15_23) rfl (l' := #[.val (.ref a1), .val (.int 1), .val (.int 1), .val (.ref b_48), .val (.int 0)]) rfl ?_
    refine XS.iinc X52.here hx rfl (hB d15_26) rfl (l' := #[.val (.ref a1), .val (.int 1), .val (.int 1), .val (.ref b_48), .val (.int 1)]) rfl ?_
    refine XS.goto X52.here hx rfl (pc0 := 29) (pc' := 8) rfl (hB d15_29) (by decide) (by decide) ?_
    refine XS.iload X52.here hx rfl (hB d15_8) rfl ?_
    refine XS.iloadN X52.here hx rfl (hB d15_10) rfl ?_
    refine XS.icmpYes X52.here hx rfl (pc0 := 11) (pc' := 32) rfl (hB d15_11) rfl (flt (by decide : ¬ ((1 : Int32) < (1 : Int32)))).2.1 (by decide) (by decide) ?_
    refine XS.aloadN X52.here hx rfl (hB d15_32) rfl rfl ?_
    exact retOut X52 hx Bd.returns rfl (Or.inr (Or.inr (Or.inr (Or.inr ⟨rfl, rfl, rfl⟩)))) (hB d15_33) hr
  · show Qtob1 Z G1 fm a1 ka c0 h0 n0 _ T52.heap _
    exact ⟨b_48, kb_48, rfl, N52, K0_53, l0_b_48, cv52⟩
theorem d16_0 : decode jdk_52_method_16_code 0 = .ok (.iload_n 2, 1) := by decide +kernel
theorem d16_1 : decode jdk_52_method_16_code 1 = .ok (.newarray .byte, 2) := by decide +kernel
theorem d16_3 : decode jdk_52_method_16_code 3 = .ok (.astore_n 3, 1) := by decide +kernel
theorem d16_4 : decode jdk_52_method_16_code 4 = .ok (.aload_n 0, 1) := by decide +kernel
theorem d16_5 : decode jdk_52_method_16_code 5 = .ok (.iload_n 1, 1) := by decide +kernel
theorem d16_6 : decode jdk_52_method_16_code 6 = .ok (.aload_n 3, 1) := by decide +kernel
theorem d16_7 : decode jdk_52_method_16_code 7 = .ok (.iconst 0, 1) := by decide +kernel
theorem d16_8 : decode jdk_52_method_16_code 8 = .ok (.iload_n 2, 1) := by decide +kernel
theorem d16_9 : decode jdk_52_method_16_code 9 = .ok (.invokestatic 115, 3) := by decide +kernel
theorem pd___CI_BII_I : parseMethodDescriptor "([CI[BII)I" = some ⟨[(.array .char), .int, (.array .byte), .int, .int], some .int⟩ := by decide +kernel
theorem d16_12 : decode jdk_52_method_16_code 12 = .ok (.istore 4, 2) := by decide +kernel
theorem d16_14 : decode jdk_52_method_16_code 14 = .ok (.iload 4, 2) := by decide +kernel
theorem d16_16 : decode jdk_52_method_16_code 16 = .ok (.iload_n 2, 1) := by decide +kernel
theorem d16_17 : decode jdk_52_method_16_code 17 = .ok (.if_icmp .eq 40, 3) := by decide +kernel
theorem d16_57 : decode jdk_52_method_16_code 57 = .ok (.aload_n 3, 1) := by decide +kernel
theorem d16_58 : decode jdk_52_method_16_code 58 = .ok (.areturn, 1) := by decide +kernel
def Qc3L1 (Z : State) (G1 : Int32) (fm : Value) (a1 : Addr) (ka : ClassId) (c0 : Int32) (h0 : Heap) (n0 : Nat) (v : Option Value) (h : Heap) (L : List Loc) : Prop := ∃ b : Addr, ∃ kb : ClassId, v = some (.ref b) ∧ Fr n0 L ∧ Keep h0 h [] ∧ h0.size ≤ b ∧ Arv Z h b kb .byte (1 : Int32) [(.int ((c0.toInt8.toInt32).toInt8.toInt32))] (.int 0)
theorem ef_jdk_52_method_16_code_RII (m : MethodId) (x0 : Addr) (x1 : Int32) (x2 : Int32) : entryFrame m #[.ref x0, .int x1, .int x2] 6 = mkF m 0 #[.val (.ref x0), .val (.int x1), .val (.int x2), .unset, .unset, .unset] [] := by first | (simp [entryFrame, mkF, argsToLocals, Value.category]; done) | rfl
abbrev y16 : MethodName := ⟨"java/lang/StringUTF16", "compress", "([CII)[B"⟩
theorem rmc3L1 (l : Launch) (Z : State) (a0 : Array Value) (G1 : Int32) (fm : Value) (hG : Glob Z a0 G1 fm) (ws : List Jvm.Cond) (a1 : Addr) (ka : ClassId) (c0 : Int32) (h0 : Heap) (n0 : Nat) (Z0 : n0 ≤ h0.size) (X00 : Old Z n0 h0) (V_a1 : Arv Z h0 a1 ka .char (1 : Int32) [.int c0] (.int 0)) (hl0 : ¬ ((255 : Int32) < c0)) :
    Met l Z h0 y16 jdk_52_method_16_code 6 (some (.array .byte)) ws (Room.mk 1 1 1 18) #[.ref a1, .int 0, .int 1] (Qc3L1 Z G1 fm a1 ka c0 h0 n0) := by
  obtain ⟨hw, O_cs, P_cs, O_as, O_hi, O_lo, O_fm, R_fm⟩ := id hG
  have W := @own_W _ _ hw
  refine own_go "java/lang/StringUTF16" rfl (plainFor_of_name pn_java_lang_StringUTF16) ?_
  intro p e s m below meth c s₁ Bd hx hby hml hown hnm X0 e0 hZ
  have hB := @hb _ _ hby
  have N0 := Fr.nil n0
  obtain ⟨T54, h54, k54, X54, e54, E54, A54, Q54, st54⟩ := newPE X0 hx hZ (W 16 rfl) e0 (g := (mkF m 1 #[.val (.ref a1), .val (.int 0), .val (.int 1), .unset, .unset, .unset] [.int 1])) rfl (hB d16_1) rfl (by decide) (cap := 1) (by decide) (by decide) (by decide) (by decide) (ad := "[B") rfl
  obtain ⟨b54, g54⟩ : ∃ z, z = h0.size := ⟨_, rfl⟩
  rw [← g54] at A54 Q54 st54
  have Z55 : n0 ≤ h54.size := Nat.le_trans Z0 E54.1
  have K0_55 : Keep h0 h54 [] := (Keep.refl h0 []).ext E54
  have O55 : Old Z n0 h54 := X00.ext E54
  have lo_b54 : h0.size ≤ b54 := Nat.le_of_eq g54.symm
  have g_b54 : n0 ≤ b54 := Nat.le_trans Z0 lo_b54
  have l0_b54 : h0.size ≤ b54 := Nat.le_trans (Keep.refl h0 []).1 lo_b54
  have V_b54 : Arv Z h54 b54 k54 .byte (1 : Int32) [.int 0] (.int 0) := (Arv.new A54 (by decide)).pad (pad_rep [] (.int 0) 1)
  have f57 := (V_a1.ext E54)
  -- pc 9: java/lang/StringUTF16.compress
  obtain ⟨_, _, ⟨T56, L56, k56, n56⟩, -, X56, ⟨Lc56, hQ56, l56, y56, z56⟩, st56⟩ := Jvm.LawKit.callS X54 hx (y := y12) hown (mvT hZ (W 42 rfl)) (mvT hZ (W 43 rfl)) (mvT hZ (W 40 rfl)) (mvT hZ (W 44 rfl)) (by decide) (backOf (W := 0) (rmc5L1 l Z a0 G1 fm hG [] a1 b54 ka k54 c0 h54 n0 Z55 O55 f57 V_b54 g_b54 (Nat.ne_of_lt (Nat.lt_of_lt_of_le V_a1.lt lo_b54)) (by first | assumption | decide | rfl)) hZ (W 44 rfl) (W 40 rfl) (by decide) (by decide)) (g := (mkF m 9 #[.val (.ref a1), .val (.int 0), .val (.int 1), .val (.ref b54), .unset, .unset] [.int 1, .int 0, .ref b54, .int 0, .ref a1])) rfl (by rw [hml]; rfl) (argsL := [.ref a1, .int 0, .ref b54, .int 0, .int 1]) (rest := []) (lenOf pd___CI_BII_I rfl) rfl (by show 2 * 0 + _ ≤ _; exact Nat.le_of_eq rfl) (hB d16_9) (fun _ _ => ⟨rfl, e54, (by decide : 1 + 0 ≤ _), (by decide : 1 + 0 ≤ _)⟩)
  dsimp only [Pt.U, Pt.locs, Pt.cells, Pt.slots] at X56 l56 y56 z56 st56 hQ56
  subst l56 y56 z56
  obtain ⟨rfl, N56q, K56, f56_0⟩ := hQ56
  have N56 := Fr.app N0 N56q
  have Z58 : n0 ≤ T56.heap.size := Nat.le_trans Z55 K56.1
  have K0_58 : Keep h0 T56.heap [] := K0_55.trans K56 (allS (Or.inr l0_b54) all0)
  have O58 : Old Z n0 T56.heap := O55.keep K56 (allS g_b54 all0)
  obtain ⟨fs, hr, hrun, hended, hW, hsame⟩ := X56.leave (v := some (.ref b54)) (fun h => by rw [Bd.returns] at h; cases h)
  refine ⟨_, _, castTop (ef_jdk_52_method_16_code_RII m a1 (0 : Int32) (1 : Int32)) ?_, hrun, hended, _, _, rfl, ?_, ⟨_, rfl⟩, hW, hsame.mono (own_ble rfl) (own_ble rfl)⟩
  · show Steps _ _ _ (s₁.setTop (mkF m 0 #[.val (.ref a1), .val (.int 0), .val (.int 1), .unset, .unset, .unset] [])) _
    refine XS.iloadN X0.here hx rfl (hB d16_0) rfl ?_
    refine st54 _ ?_
    show Steps _ _ _ (T54.setTop (mkF m 3 #[.val (.ref a1), .val (.int 0), .val (.int 1), .unset, .unset, .unset] [.ref b54])) _
    refine XS.astoreN X54.here hx rfl (hB d16_3) rfl rfl (l' := #[.val (.ref a1), .val (.int 0), .val (.int 1), .val (.ref b54), .unset, .unset]) rfl ?_
    refine XS.aloadN X54.here hx rfl (hB d16_4) rfl rfl ?_
    refine XS.iloadN X54.here hx rfl (hB d16_5) rfl ?_
    refine XS.aloadN X54.here hx rfl (hB d16_6) rfl rfl ?_
    refine XS.iconst X54.here hx rfl (hB d16_7) ?_
    refine XS.iloadN X54.here hx rfl (hB d16_8) rfl ?_
    refine st56 _ ?_
    show Steps _ _ _ (T56.setTop (mkF m 12 #[.val (.ref a1), .val (.int 0), .val (.int 1), .val (.ref b54), .unset, .unset] [.int 1])) _
    refine XS.istore X56.here hx rfl (hB d16_12) rfl (l' := #[.val (.ref a1), .val (.int 0), .val (.int 1), .val (.ref b54), .val (.int 1), .unset]) rfl ?_
    refine XS.iload X56.here hx rfl (hB d16_14) rfl ?_
    refine XS.iloadN X56.here hx rfl (hB d16_16) rfl ?_
    refine XS.icmpYes X56.here hx rfl (pc0 := 17) (pc' := 57) rfl (hB d16_17) rfl (teq (by decide : (1 : Int32) = (1 : Int32))).1 (by decide) (by decide) ?_
    refine XS.aloadN X56.here hx rfl (hB d16_57) rfl rfl ?_
    exact retOut X56 hx Bd.returns rfl (Or.inr (Or.inr (Or.inr (Or.inr ⟨rfl, rfl, rfl⟩)))) (hB d16_58) hr
  · show Qc3L1 Z G1 fm a1 ka c0 h0 n0 _ T56.heap _
    exact ⟨b54, k54, rfl, N56, K0_58, l0_b54, f56_0⟩
theorem d16_20 : decode jdk_52_method_16_code 20 = .ok (.aload_n 0, 1) := by decide +kernel
theorem d16_21 : decode jdk_52_method_16_code 21 = .ok (.iload_n 1, 1) := by decide +kernel
theorem d16_22 : decode jdk_52_method_16_code 22 = .ok (.iload_n 2, 1) := by decide +kernel
theorem d16_23 : decode jdk_52_method_16_code 23 = .ok (.invokestatic 119, 3) := by decide +kernel
theorem pd___CII__B : parseMethodDescriptor "([CII)[B" = some ⟨[(.array .char), .int, .int], some (.array .byte)⟩ := by decide +kernel
theorem d16_26 : decode jdk_52_method_16_code 26 = .ok (.astore 5, 2) := by decide +kernel
theorem d16_28 : decode jdk_52_method_16_code 28 = .ok (.aload 5, 2) := by decide +kernel
theorem d16_30 : decode jdk_52_method_16_code 30 = .ok (.iload 4, 2) := by decide +kernel
theorem d16_32 : decode jdk_52_method_16_code 32 = .ok (.invokestatic 71, 3) := by decide +kernel
theorem d16_35 : decode jdk_52_method_16_code 35 = .ok (.sipush 255, 3) := by decide +kernel
theorem d16_38 : decode jdk_52_method_16_code 38 = .ok (.if_icmp .gt 16, 3) := by decide +kernel
theorem d16_54 : decode jdk_52_method_16_code 54 = .ok (.aload 5, 2) := by decide +kernel
theorem d16_56 : decode jdk_52_method_16_code 56 = .ok (.areturn, 1) := by decide +kernel
def Qc3W1 (Z : State) (G1 : Int32) (fm : Value) (a1 : Addr) (ka : ClassId) (c0 : Int32) (h0 : Heap) (n0 : Nat) (v : Option Value) (h : Heap) (L : List Loc) : Prop := ∃ b : Addr, ∃ kb : ClassId, v = some (.ref b) ∧ Fr n0 L ∧ Keep h0 h [] ∧ h0.size ≤ b ∧ Arv Z h b kb .byte (2 : Int32) [(.int (((c0 >>> ((0 : Int32) &&& 31)).toInt8.toInt32).toInt8.toInt32)), (.int (((c0 >>> ((8 : Int32) &&& 31)).toInt8.toInt32).toInt8.toInt32))] (.int 0)
theorem rmc3W1 (l : Launch) (Z : State) (a0 : Array Value) (G1 : Int32) (fm : Value) (hG : Glob Z a0 G1 fm) (ws : List Jvm.Cond) (a1 : Addr) (ka : ClassId) (c0 : Int32) (h0 : Heap) (n0 : Nat) (Z0 : n0 ≤ h0.size) (X00 : Old Z n0 h0) (V_a1 : Arv Z h0 a1 ka .char (1 : Int32) [.int c0] (.int 0)) (hwid : ¬ (¬ ((255 : Int32) < c0))) (hu : ∀ c ∈ ([c0] : List Int32), own_u16 c) :
    Met l Z h0 y16 jdk_52_method_16_code 6 (some (.array .byte)) ws (Room.mk 3 2 3 40) #[.ref a1, .int 0, .int 1] (Qc3W1 Z G1 fm a1 ka c0 h0 n0) := by
  obtain ⟨hw, O_cs, P_cs, O_as, O_hi, O_lo, O_fm, R_fm⟩ := id hG
  have W := @own_W _ _ hw
  refine own_go "java/lang/StringUTF16" rfl (plainFor_of_name pn_java_lang_StringUTF16) ?_
  intro p e s m below meth c s₁ Bd hx hby hml hown hnm X0 e0 hZ
  have hB := @hb _ _ hby
  have N0 := Fr.nil n0
  obtain ⟨T59, h59, k59, X59, e59, E59, A59, Q59, st59⟩ := newPE X0 hx hZ (W 16 rfl) e0 (g := (mkF m 1 #[.val (.ref a1), .val (.int 0), .val (.int 1), .unset, .unset, .unset] [.int 1])) rfl (hB d16_1) rfl (by decide) (cap := 1) (by decide) (by decide) (by decide) (by decide) (ad := "[B") rfl
  obtain ⟨b59, g59⟩ : ∃ z, z = h0.size := ⟨_, rfl⟩
  rw [← g59] at A59 Q59 st59
  have Z60 : n0 ≤ h59.size := Nat.le_trans Z0 E59.1
  have K0_60 : Keep h0 h59 [] := (Keep.refl h0 []).ext E59
  have O60 : Old Z n0 h59 := X00.ext E59
  have lo_b59 : h0.size ≤ b59 := Nat.le_of_eq g59.symm
  have g_b59 : n0 ≤ b59 := Nat.le_trans Z0 lo_b59
  have l0_b59 : h0.size ≤ b59 := Nat.le_trans (Keep.refl h0 []).1 lo_b59
  have V_b59 : Arv Z h59 b59 k59 .byte (1 : Int32) [.int 0] (.int 0) := (Arv.new A59 (by decide)).pad (pad_rep [] (.int 0) 1)
  have f62 := (V_a1.ext E59)
  -- pc 9: java/lang/StringUTF16.compress
  obtain ⟨_, _, ⟨T61, L61, k61, n61⟩, -, X61, ⟨Lc61, hQ61, l61, y61, z61⟩, st61⟩ := Jvm.LawKit.callS X59 hx (y := y12) hown (mvT hZ (W 42 rfl)) (mvT hZ (W 43 rfl)) (mvT hZ (W 40 rfl)) (mvT hZ (W 44 rfl)) (by decide) (backOf (W := 0) (rmc5W1 l Z a0 G1 fm hG [] a1 b59 ka k59 c0 h59 n0 Z60 O60 f62 V_b59 g_b59 (Nat.ne_of_lt (Nat.lt_of_lt_of_le V_a1.lt lo_b59)) (by first | assumption | decide | rfl)) hZ (W 44 rfl) (W 40 rfl) (by decide) (by decide)) (g := (mkF m 9 #[.val (.ref a1), .val (.int 0), .val (.int 1), .val (.ref b59), .unset, .unset] [.int 1, .int 0, .ref b59, .int 0, .ref a1])) rfl (by rw [hml]; rfl) (argsL := [.ref a1, .int 0, .ref b59, .int 0, .int 1]) (rest := []) (lenOf pd___CI_BII_I rfl) rfl (by show 2 * 0 + _ ≤ _; exact Nat.le_of_eq rfl) (hB d16_9) (fun _ _ => ⟨rfl, e59, (by decide : 1 + 0 ≤ _), (by decide : 1 + 0 ≤ _)⟩)
  dsimp only [Pt.U, Pt.locs, Pt.cells, Pt.slots] at X61 l61 y61 z61 st61 hQ61
  subst l61 y61 z61
  obtain ⟨j_61, rfl, N61q, K61, f61_0⟩ := hQ61
  have N61 := Fr.app N0 N61q
  have Z63 : n0 ≤ T61.heap.size := Nat.le_trans Z60 K61.1
  have K0_63 : Keep h0 T61.heap [] := K0_60.trans K61 (allS (Or.inr l0_b59) all0)
  have O63 : Old Z n0 T61.heap := O60.keep K61 (allS g_b59 all0)
  have f65 := (f62.keep K61 (ninS (Nat.ne_of_lt (Nat.lt_of_lt_of_le V_a1.lt lo_b59)) nin0))
  -- pc 23: java/lang/StringUTF16.toBytes
  obtain ⟨_, _, ⟨T64, L64, k64, n64⟩, -, X64, ⟨Lc64, hQ64, l64, y64, z64⟩, st64⟩ := Jvm.LawKit.callS X61 hx (y := y15) hown (mvT hZ (W 84 rfl)) (mvT hZ (W 85 rfl)) (mvT hZ (W 40 rfl)) (mvT hZ (W 86 rfl)) (by decide) (backOf (W := 0) (rmtob1 l Z a0 G1 fm hG [] a1 ka c0 T61.heap n0 Z63 O63 f65) hZ (W 86 rfl) (W 40 rfl) (by decide) (by decide)) (g := (mkF m 23 #[.val (.ref a1), .val (.int 0), .val (.int 1), .val (.ref b59), .val (.int j_61), .unset] [.int 1, .int 0, .ref a1])) rfl (by rw [hml]; rfl) (argsL := [.ref a1, .int 0, .int 1]) (rest := []) (lenOf pd___CII__B rfl) rfl (by show 2 * 0 + _ ≤ _; exact Nat.le_of_eq rfl) (hB d16_23) (fun _ _ => ⟨rfl, rfl, (by decide : 1 + 1 ≤ _), (by decide : 1 + 2 ≤ _)⟩)
  dsimp only [Pt.U, Pt.locs, Pt.cells, Pt.slots] at X64 l64 y64 z64 st64 hQ64
  subst l64 y64 z64
  obtain ⟨b_64, kb_64, rfl, N64q, K64, f64_0, f64_1⟩ := hQ64
  have N64 := Fr.app N61 N64q
  have Z66 : n0 ≤ T64.heap.size := Nat.le_trans Z63 K64.1
  have K0_66 : Keep h0 T64.heap [] := K0_63.trans K64 all0
  have O66 : Old Z n0 T64.heap := O63.keep K64 all0
  have lo_b_64 : T61.heap.size ≤ b_64 := f64_0
  have g_b_64 : n0 ≤ b_64 := Nat.le_trans Z63 lo_b_64
  have l0_b_64 : h0.size ≤ b_64 := Nat.le_trans K0_63.1 lo_b_64
  obtain ⟨K_, c_, hi_, hg_, hw_⟩ := id f61_0
  -- pc 32: java/lang/StringUTF16.getChar
  obtain ⟨_, _, ⟨T67, L67, k67, n67⟩, -, X67, ⟨Lc67, hQ67, l67, y67, z67⟩, st67⟩ := Jvm.LawKit.callS X64 hx (y := y0) hown (mvT hZ (W 100 rfl)) (mvT hZ (W 101 rfl)) (mvT hZ (W 40 rfl)) (mvT hZ (W 102 rfl)) (by decide) (backOf (W := 0) (rmgch l Z a0 G1 fm hG [] b_64 kb_64 (2 : Int32) ([(.int (((c0 >>> ((0 : Int32) &&& 31)).toInt8.toInt32).toInt8.toInt32)), (.int (((c0 >>> ((8 : Int32) &&& 31)).toInt8.toInt32).toInt8.toInt32))] : List Value) j_61 ([c0] : List Int32) K_ c_ T64.heap n0 Z66 O66 f64_1 rfl rfl (own_ble rfl) hu hi_ hg_) hZ (W 102 rfl) (W 40 rfl) (by decide) (by decide)) (g := (mkF m 32 #[.val (.ref a1), .val (.int 0), .val (.int 1), .val (.ref b59), .val (.int j_61), .val (.ref b_64)] [.int j_61, .ref b_64])) rfl (by rw [hml]; rfl) (argsL := [.ref b_64, .int j_61]) (rest := []) (lenOf pd___BI_C rfl) rfl (by show 2 * 0 + _ ≤ _; exact Nat.le_of_eq rfl) (hB d16_32) (fun _ _ => ⟨rfl, rfl, (by decide : 2 + 0 ≤ _), (by decide : 3 + 0 ≤ _)⟩)
  dsimp only [Pt.U, Pt.locs, Pt.cells, Pt.slots] at X67 l67 y67 z67 st67 hQ67
  subst l67 y67 z67
  obtain ⟨rfl, N67q, eq67⟩ := hQ67
  have N67 := Fr.app N64 N67q
  obtain ⟨fs, hr, hrun, hended, hW, hsame⟩ := X67.leave (v := some (.ref b_64)) (fun h => by rw [Bd.returns] at h; cases h)
  refine ⟨_, _, castTop (ef_jdk_52_method_16_code_RII m a1 (0 : Int32) (1 : Int32)) ?_, hrun, hended, _, _, rfl, ?_, ⟨_, rfl⟩, hW, hsame.mono (own_ble rfl) (own_ble rfl)⟩
  · show Steps _ _ _ (s₁.setTop (mkF m 0 #[.val (.ref a1), .val (.int 0), .val (.int 1), .unset, .unset, .unset] [])) _
    refine XS.iloadN X0.here hx rfl (hB d16_0) rfl ?_
    refine st59 _ ?_
    show Steps _ _ _ (T59.setTop (mkF m 3 #[.val (.ref a1), .val (.int 0), .val (.int 1), .unset, .unset, .unset] [.ref b59])) _
    refine XS.astoreN X59.here hx rfl (hB d16_3) rfl rfl (l' := #[.val (.ref a1), .val (.int 0), .val (.int 1), .val (.ref b59), .unset, .unset]) rfl ?_
    refine XS.aloadN X59.here hx rfl (hB d16_4) rfl rfl ?_
    refine XS.iloadN X59.here hx rfl (hB d16_5) rfl ?_
    refine XS.aloadN X59.here hx rfl (hB d16_6) rfl rfl ?_
    refine XS.iconst X59.here hx rfl (hB d16_7) ?_
    refine XS.iloadN X59.here hx rfl (hB d16_8) rfl ?_
    refine st61 _ ?_
    show Steps _ _ _ (T61.setTop (mkF m 12 #[.val (.ref a1), .val (.int 0), .val (.int 1), .val (.ref b59), .unset, .unset] [.int j_61])) _
    refine XS.istore X61.here hx rfl (hB d16_12) rfl (l' := #[.val (.ref a1), .val (.int 0), .val (.int 1), .val (.ref b59), .val (.int j_61), .unset]) rfl ?_
    refine XS.iload X61.here hx rfl (hB d16_14) rfl ?_
    refine XS.iloadN X61.here hx rfl (hB d16_16) rfl ?_
    refine XS.icmpNo X61.here hx rfl (hB d16_17) rfl (feq (own_fne (cs := [c0]) (own_ble rfl) f61_0 : ¬ (j_61 = (1 : Int32)))).1 ?_
    refine XS.aloadN X61.here hx rfl (hB d16_20) rfl rfl ?_
    refine XS.iloadN X61.here hx rfl (hB d16_21) rfl ?_
    refine XS.iloadN X61.here hx rfl (hB d16_22) rfl ?_
    refine st64 _ ?_
    show Steps _ _ _ (T64.setTop (mkF m 26 #[.val (.ref a1), .val (.int 0), .val (.int 1), .val (.ref b59), .val (.int j_61), .unset] [.ref b_64])) _
    refine XS.astore X64.here hx rfl (hB d16_26) rfl rfl (l' := #[.val (.ref a1), .val (.int 0), .val (.int 1), .val (.ref b59), .val (.int j_61), .val (.ref b_64)]) rfl ?_
    refine XS.aload X64.here hx rfl (hB d16_28) rfl rfl ?_
    refine XS.iload X64.here hx rfl (hB d16_30) rfl ?_
    refine st67 _ ?_
    show Steps _ _ _ (T67.setTop (mkF m 35 #[.val (.ref a1), .val (.int 0), .val (.int 1), .val (.ref b59), .val (.int j_61), .val (.ref b_64)] [.int c_])) _
    refine XS.sipush X67.here hx rfl (hB d16_35) ?_
    refine XS.icmpYes X67.here hx rfl (pc0 := 38) (pc' := 54) rfl (hB d16_38) rfl (tlt (hw_ : (255 : Int32) < c_)).2.2.1 (by decide) (by decide) ?_
    refine XS.aload X67.here hx rfl (hB d16_54) rfl rfl ?_
    exact retOut X67 hx Bd.returns rfl (Or.inr (Or.inr (Or.inr (Or.inr ⟨rfl, rfl, rfl⟩)))) (hB d16_56) hr
  · show Qc3W1 Z G1 fm a1 ka c0 h0 n0 _ T67.heap _
    rw [eq67]
    exact ⟨b_64, kb_64, rfl, N67, K0_66, l0_b_64, f64_1⟩
theorem d17_0 : decode jdk_52_method_15_code 0 = .ok (.iload_n 1, 1) := by decide +kernel
theorem d17_1 : decode jdk_52_method_15_code 1 = .ok (.aload_n 0, 1) := by decide +kernel
theorem d17_2 : decode jdk_52_method_15_code 2 = .ok (.arraylength, 1) := by decide +kernel
theorem d17_3 : decode jdk_52_method_15_code 3 = .ok (.isub, 1) := by decide +kernel
theorem d17_4 : decode jdk_52_method_15_code 4 = .ok (.bipush 31, 2) := by decide +kernel
theorem d17_6 : decode jdk_52_method_15_code 6 = .ok (.iushr, 1) := by decide +kernel
theorem d17_7 : decode jdk_52_method_15_code 7 = .ok (.i2b, 1) := by decide +kernel
theorem d17_8 : decode jdk_52_method_15_code 8 = .ok (.ireturn, 1) := by decide +kernel
def QcfaL1 (Z : State) (G1 : Int32) (fm : Value) (b : Addr) (kb : ClassId) (vs : List Value) (h0 : Heap) (n0 : Nat) (v : Option Value) (h : Heap) (L : List Loc) : Prop := v = some (.int 0) ∧ Fr n0 L ∧ h = h0
theorem ef_jdk_52_method_15_code_RI (m : MethodId) (x0 : Addr) (x1 : Int32) : entryFrame m #[.ref x0, .int x1] 2 = mkF m 0 #[.val (.ref x0), .val (.int x1)] [] := by first | (simp [entryFrame, mkF, argsToLocals, Value.category]; done) | rfl
abbrev y17 : MethodName := ⟨"java/lang/StringUTF16", "coderFromArrayLen", "([BI)B"⟩
theorem rmcfaL1 (l : Launch) (Z : State) (a0 : Array Value) (G1 : Int32) (fm : Value) (hG : Glob Z a0 G1 fm) (ws : List Jvm.Cond) (b : Addr) (kb : ClassId) (vs : List Value) (h0 : Heap) (n0 : Nat) (Z0 : n0 ≤ h0.size) (X00 : Old Z n0 h0) (V_b : Arv Z h0 b kb .byte (1 : Int32) vs (.int 0)) :
    Met l Z h0 y17 jdk_52_method_15_code 2 (some .byte) ws (Room.mk 0 0 0 0) #[.ref b, .int 1] (QcfaL1 Z G1 fm b kb vs h0 n0) := by
  obtain ⟨hw, O_cs, P_cs, O_as, O_hi, O_lo, O_fm, R_fm⟩ := id hG
  have W := @own_W _ _ hw
  refine own_go "java/lang/StringUTF16" rfl (plainFor_of_name pn_java_lang_StringUTF16) ?_
  intro p e s m below meth c s₁ Bd hx hby hml hown hnm X0 e0 hZ
  have hB := @hb _ _ hby
  have N0 := Fr.nil n0
  obtain ⟨clq68, Arq68, qaq68, Sq68, Nq68, Hq68, Gq68⟩ := id V_b
  obtain ⟨fs, hr, hrun, hended, hW, hsame⟩ := X0.leave (v := some (.int 0)) (fun h => by rw [Bd.returns] at h; cases h)
  refine ⟨_, _, castTop (ef_jdk_52_method_15_code_RI m b (1 : Int32)) ?_, hrun, hended, _, _, rfl, ?_, ⟨_, rfl⟩, hW, hsame.mono (own_ble rfl) (own_ble rfl)⟩
  · show Steps _ _ _ (s₁.setTop (mkF m 0 #[.val (.ref b), .val (.int 1)] [])) _
    refine XS.iloadN X0.here hx rfl (hB d17_0) rfl ?_
    refine XS.aloadN X0.here hx rfl (hB d17_1) rfl rfl ?_
    refine X0.arraylength hx (own_cell e0 Arq68.1) (State.isArrayOf_alike hZ.alike Arq68.2.1) (g := (mkF m 2 #[.val (.ref b), .val (.int 1)] [.ref b, .int 1])) rfl rfl (hB d17_2) _ ?_
    rw [len_of Sq68 Nq68]
    refine XS.isub X0.here hx rfl (hB d17_3) rfl ?_
    refine XS.bipush X0.here hx rfl (hB d17_4) ?_
    refine XS.iushr X0.here hx rfl (hB d17_6) rfl ?_
    refine XS.i2b X0.here hx rfl (hB d17_7) rfl ?_
    exact retN X0 hx (t := .byte) Bd.returns (by simp) (hB d17_8) hr
  · show QcfaL1 Z G1 fm b kb vs h0 n0 _ s₁.heap _
    rw [e0]
    exact ⟨rfl, N0, rfl⟩
theorem d18_0 : decode jdk_42_method_149_code 0 = .ok (.aload_n 0, 1) := by decide +kernel
theorem d18_1 : decode jdk_42_method_149_code 1 = .ok (.invokespecial 1, 3) := by decide +kernel
theorem d18_4 : decode jdk_42_method_149_code 4 = .ok (.iload_n 3, 1) := by decide +kernel
theorem d18_5 : decode jdk_42_method_149_code 5 = .ok (.ifCond .ne 22, 3) := by decide +kernel
theorem d18_27 : decode jdk_42_method_149_code 27 = .ok (.getstatic 38, 3) := by decide +kernel
theorem d18_30 : decode jdk_42_method_149_code 30 = .ok (.ifCond .eq 28, 3) := by decide +kernel
theorem d18_33 : decode jdk_42_method_149_code 33 = .ok (.aload_n 1, 1) := by decide +kernel
theorem d18_34 : decode jdk_42_method_149_code 34 = .ok (.iload_n 2, 1) := by decide +kernel
theorem d18_35 : decode jdk_42_method_149_code 35 = .ok (.iload_n 3, 1) := by decide +kernel
theorem d18_36 : decode jdk_42_method_149_code 36 = .ok (.invokestatic 177, 3) := by decide +kernel
theorem d18_39 : decode jdk_42_method_149_code 39 = .ok (.astore 5, 2) := by decide +kernel
theorem d18_41 : decode jdk_42_method_149_code 41 = .ok (.aload_n 0, 1) := by decide +kernel
theorem d18_42 : decode jdk_42_method_149_code 42 = .ok (.aload 5, 2) := by decide +kernel
theorem d18_44 : decode jdk_42_method_149_code 44 = .ok (.iload_n 3, 1) := by decide +kernel
theorem d18_45 : decode jdk_42_method_149_code 45 = .ok (.invokestatic 47, 3) := by decide +kernel
theorem pd___BI_B : parseMethodDescriptor "([BI)B" = some ⟨[(.array .byte), .int], some .byte⟩ := by decide +kernel
theorem d18_48 : decode jdk_42_method_149_code 48 = .ok (.putfield 15, 3) := by decide +kernel
theorem d18_51 : decode jdk_42_method_149_code 51 = .ok (.aload_n 0, 1) := by decide +kernel
theorem d18_52 : decode jdk_42_method_149_code 52 = .ok (.aload 5, 2) := by decide +kernel
theorem d18_54 : decode jdk_42_method_149_code 54 = .ok (.putfield 9, 3) := by decide +kernel
theorem d18_57 : decode jdk_42_method_149_code 57 = .ok (.return_, 1) := by decide +kernel
def QviL1 (Z : State) (G1 : Int32) (fm : Value) (a1 : Addr) (b : Addr) (ka : ClassId) (c0 : Int32) (h0 : Heap) (n0 : Nat) (v : Option Value) (h : Heap) (L : List Loc) : Prop := ∃ t : Addr, ∃ kb : ClassId, v = none ∧ Fr n0 L ∧ Keep h0 h [a1] ∧ Exa Z h a1 "java/lang/String" ∧ Fld Z h a1 "java/lang/String" "coder" "B" (.int 0) ∧ Fld Z h a1 "java/lang/String" "value" "[B" (.ref t) ∧ Arv Z h t kb .byte (1 : Int32) [(.int ((c0.toInt8.toInt32).toInt8.toInt32))] (.int 0)
theorem ef_jdk_42_method_149_code_RRIIN (m : MethodId) (x0 : Addr) (x1 : Addr) (x2 : Int32) (x3 : Int32) : entryFrame m #[.ref x0, .ref x1, .int x2, .int x3, .null] 6 = mkF m 0 #[.val (.ref x0), .val (.ref x1), .val (.int x2), .val (.int x3), .val .null, .unset] [] := by first | (simp [entryFrame, mkF, argsToLocals, Value.category]; done) | rfl
abbrev y18 : MethodName := ⟨"java/lang/String", "<init>", "([CIILjava/lang/Void;)V"⟩
theorem rmviL1 (l : Launch) (Z : State) (a0 : Array Value) (G1 : Int32) (fm : Value) (hG : Glob Z a0 G1 fm) (ws : List Jvm.Cond) (a1 : Addr) (b : Addr) (ka : ClassId) (c0 : Int32) (h0 : Heap) (n0 : Nat) (Z0 : n0 ≤ h0.size) (X00 : Old Z n0 h0) (E_a1 : Exa Z h0 a1 "java/lang/String") (g_a1 : n0 ≤ a1) (F_value_a1 : Fld Z h0 a1 "java/lang/String" "value" "[B" .null) (F_coder_a1 : Fld Z h0 a1 "java/lang/String" "coder" "B" (.int 0)) (V_b : Arv Z h0 b ka .char (1 : Int32) [.int c0] (.int 0)) (ne_b_a1 : b ≠ a1) (hl0 : ¬ ((255 : Int32) < c0)) :
    Met l Z h0 y18 jdk_42_method_149_code 6 none ws (Room.mk 2 1 1 35) #[.ref a1, .ref b, .int 0, .int 1, .null] (QviL1 Z G1 fm a1 b ka c0 h0 n0) := by
  obtain ⟨hw, O_cs, P_cs, O_as, O_hi, O_lo, O_fm, R_fm⟩ := id hG
  have W := @own_W _ _ hw
  refine own_go "java/lang/String" rfl (plainFor_of_name pn_java_lang_String) ?_
  intro p e s m below meth c s₁ Bd hx hby hml hown hnm X0 e0 hZ
  have hB := @hb _ _ hby
  have N0 := Fr.nil n0
  obtain ⟨T69, X69, e69, st69⟩ := initO X0 hx hZ hown (W 12 rfl) (W 13 rfl) (W 14 rfl) e0 (g := (mkF m 1 #[.val (.ref a1), .val (.ref b), .val (.int 0), .val (.int 1), .val .null, .unset] [.ref a1])) rfl (by rw [hml]; rfl) rfl (hB d18_1) (by decide) (W := 0) (by show 2 * 0 + _ ≤ _; exact Nat.le_of_eq rfl) (by decide)
  obtain ⟨T70, X70, e70, st70⟩ := getS2 X69 hx hZ hown (host := "") (Or.inl (W 37 rfl)) Via.refl e69 (O_cs.ext X00.2) (g := (mkF m 27 #[.val (.ref a1), .val (.ref b), .val (.int 0), .val (.int 1), .val .null, .unset] [])) rfl (hB d18_27)
  -- pc 36: java/lang/StringUTF16.compress
  obtain ⟨_, _, ⟨T71, L71, k71, n71⟩, -, X71, ⟨Lc71, hQ71, l71, y71, z71⟩, st71⟩ := Jvm.LawKit.callS X70 hx (y := y16) hown (mvT hZ (W 38 rfl)) (mvT hZ (W 39 rfl)) (mvT hZ (W 40 rfl)) (mvT hZ (W 41 rfl)) (by decide) (backOf (W := 0) (rmc3L1 l Z a0 G1 fm hG [] b ka c0 h0 n0 Z0 X00 V_b (by first | assumption | decide | rfl)) hZ (W 41 rfl) (W 40 rfl) (by decide) (by decide)) (g := (mkF m 36 #[.val (.ref a1), .val (.ref b), .val (.int 0), .val (.int 1), .val .null, .unset] [.int 1, .int 0, .ref b])) rfl (by rw [hml]; rfl) (argsL := [.ref b, .int 0, .int 1]) (rest := []) (lenOf pd___CII__B rfl) rfl (by show 2 * 0 + _ ≤ _; exact Nat.le_of_eq rfl) (hB d18_36) (fun _ _ => ⟨rfl, e70, (by decide : 0 + 1 ≤ _), (by decide : 0 + 1 ≤ _)⟩)
  dsimp only [Pt.U, Pt.locs, Pt.cells, Pt.slots] at X71 l71 y71 z71 st71 hQ71
  subst l71 y71 z71
  obtain ⟨b_71, kb_71, rfl, N71q, K71, f71_0, f71_1⟩ := hQ71
  have N71 := Fr.app N0 N71q
  have Z72 : n0 ≤ T71.heap.size := Nat.le_trans Z0 K71.1
  have K0_72 : Keep h0 T71.heap [a1] := (Keep.refl h0 [a1]).trans K71 all0
  have O72 : Old Z n0 T71.heap := X00.keep K71 all0
  have lo_b_71 : h0.size ≤ b_71 := f71_0
  have g_b_71 : n0 ≤ b_71 := Nat.le_trans Z0 lo_b_71
  have l0_b_71 : h0.size ≤ b_71 := Nat.le_trans (Keep.refl h0 [a1]).1 lo_b_71
  -- pc 45: java/lang/StringUTF16.coderFromArrayLen
  obtain ⟨_, _, ⟨T73, L73, k73, n73⟩, -, X73, ⟨Lc73, hQ73, l73, y73, z73⟩, st73⟩ := Jvm.LawKit.callS X71 hx (y := y17) hown (mvT hZ (W 45 rfl)) (mvT hZ (W 46 rfl)) (mvT hZ (W 40 rfl)) (mvT hZ (W 47 rfl)) (by decide) (backOf (W := 1) (rmcfaL1 l Z a0 G1 fm hG [] b_71 kb_71 ([(.int ((c0.toInt8.toInt32).toInt8.toInt32))] : List Value) T71.heap n0 Z72 O72 f71_1) hZ (W 47 rfl) (W 40 rfl) (by decide) (by decide)) (g := (mkF m 45 #[.val (.ref a1), .val (.ref b), .val (.int 0), .val (.int 1), .val .null, .val (.ref b_71)] [.int 1, .ref b_71, .ref a1])) rfl (by rw [hml]; rfl) (argsL := [.ref b_71, .int 1]) (rest := [.ref a1]) (lenOf pd___BI_B rfl) rfl (by show 2 * 0 + _ ≤ _; exact Nat.le_of_eq rfl) (hB d18_45) (fun _ _ => ⟨rfl, rfl, (by decide : 1 + 0 ≤ _), (by decide : 1 + 0 ≤ _)⟩)
  dsimp only [Pt.U, Pt.locs, Pt.cells, Pt.slots] at X73 l73 y73 z73 st73 hQ73
  subst l73 y73 z73
  obtain ⟨rfl, N73q, eq73⟩ := hQ73
  have N73 := Fr.app N71 N73q
  have f74 := (E_a1.keep K71)
  have f75 := (F_coder_a1.keep K71 nin0)
  obtain ⟨T76, h76, X76, e76, W76, st76⟩ := putF X73 hx hZ hown (host := "") (Or.inl (W 22 rfl)) Via.refl eq73 f75 f74 (Or.inr ⟨(W 18 rfl), rfl, hnm⟩) (W 3 rfl) (ty := .byte) (by decide) rfl rfl (g := (mkF m 48 #[.val (.ref a1), .val (.ref b), .val (.int 0), .val (.int 1), .val .null, .val (.ref b_71)] [.int 0, .ref a1])) rfl rfl (hB d18_48)
  have Fw76 := f75.same W76
  have Z77 : n0 ≤ h76.size := Nat.le_trans Z72 (Keep.of_wr W76).1
  have K0_77 : Keep h0 h76 [a1] := K0_72.wr W76 (Or.inl (List.mem_of_getElem? (i := 0) rfl))
  have O77 : Old Z n0 h76 := O72.wr W76 g_a1
  have N76 := Fr.snoc X76 N73 g_a1
  have f78 := (f74.wr W76)
  have f79 := ((F_value_a1.keep K71 nin0).other W76 (Or.inr (slot_ne (Or.inr (W 17 rfl)) (Or.inr (W 18 rfl)) (by decide) (t := (.array .byte)) (t' := .byte) (by decide) (by decide))))
  obtain ⟨T80, h80, X80, e80, W80, st80⟩ := putF X76 hx hZ hown (host := "") (Or.inl (W 21 rfl)) Via.refl e76 f79 f78 (Or.inr ⟨(W 17 rfl), rfl, hnm⟩) (W 3 rfl) (ty := (.array .byte)) (by decide) rfl rfl (g := (mkF m 54 #[.val (.ref a1), .val (.ref b), .val (.int 0), .val (.int 1), .val .null, .val (.ref b_71)] [.ref b_71, .ref a1])) rfl rfl (hB d18_54)
  have Fw80 := f79.same W80
  have Z81 : n0 ≤ h80.size := Nat.le_trans Z77 (Keep.of_wr W80).1
  have K0_81 : Keep h0 h80 [a1] := K0_77.wr W80 (Or.inl (List.mem_of_getElem? (i := 0) rfl))
  have O81 : Old Z n0 h80 := O77.wr W80 g_a1
  have N80 := Fr.snoc X80 N76 g_a1
  have f82 := (f78.wr W80)
  have f83 := (Fw76.other W80 (Or.inr (slot_ne (Or.inr (W 18 rfl)) (Or.inr (W 17 rfl)) (by decide) (t := .byte) (t' := (.array .byte)) (by decide) (by decide))))
  have f84 := ((f71_1.other W76 (Ne.symm (Nat.ne_of_lt (Nat.lt_of_lt_of_le E_a1.lt lo_b_71)))).other W80 (Ne.symm (Nat.ne_of_lt (Nat.lt_of_lt_of_le E_a1.lt lo_b_71))))
  obtain ⟨fs, hr, hrun, hended, hW, hsame⟩ := X80.leave (v := none) (fun _ => rfl)
  refine ⟨_, _, castTop (ef_jdk_42_method_149_code_RRIIN m a1 b (0 : Int32) (1 : Int32)) ?_, hrun, hended, _, _, rfl, ?_, ⟨_, rfl⟩, hW, hsame.mono (own_ble rfl) (own_ble rfl)⟩
  · show Steps _ _ _ (s₁.setTop (mkF m 0 #[.val (.ref a1), .val (.ref b), .val (.int 0), .val (.int 1), .val .null, .unset] [])) _
    refine XS.aloadN X0.here hx rfl (hB d18_0) rfl rfl ?_
    refine st69 _ ?_
    show Steps _ _ _ (T69.setTop (mkF m 4 #[.val (.ref a1), .val (.ref b), .val (.int 0), .val (.int 1), .val .null, .unset] [])) _
    refine XS.iloadN X69.here hx rfl (hB d18_4) rfl ?_
    refine XS.ifYes X69.here hx rfl (pc0 := 5) (pc' := 27) rfl (hB d18_5) rfl ((if0 _ _).trans (feq (by decide : ¬ ((1 : Int32) = (0 : Int32)))).2) (by decide) (by decide) ?_
    refine st70 _ ?_
    show Steps _ _ _ (T70.setTop (mkF m 30 #[.val (.ref a1), .val (.ref b), .val (.int 0), .val (.int 1), .val .null, .unset] [.int G1])) _
    refine XS.ifNo X70.here hx rfl (hB d18_30) rfl ((if0 _ _).trans (feq (P_cs : ¬ (G1 = (0 : Int32)))).1) ?_
    refine XS.aloadN X70.here hx rfl (hB d18_33) rfl rfl ?_
    refine XS.iloadN X70.here hx rfl (hB d18_34) rfl ?_
    refine XS.iloadN X70.here hx rfl (hB d18_35) rfl ?_
    refine st71 _ ?_
    show Steps _ _ _ (T71.setTop (mkF m 39 #[.val (.ref a1), .val (.ref b), .val (.int 0), .val (.int 1), .val .null, .unset] [.ref b_71])) _
    refine XS.astore X71.here hx rfl (hB d18_39) rfl rfl (l' := #[.val (.ref a1), .val (.ref b), .val (.int 0), .val (.int 1), .val .null, .val (.ref b_71)]) rfl ?_
    refine XS.aloadN X71.here hx rfl (hB d18_41) rfl rfl ?_
    refine XS.aload X71.here hx rfl (hB d18_42) rfl rfl ?_
    refine XS.iloadN X71.here hx rfl (hB d18_44) rfl ?_
    refine st73 _ ?_
    show Steps _ _ _ (T73.setTop (mkF m 48 #[.val (.ref a1), .val (.ref b), .val (.int 0), .val (.int 1), .val .null, .val (.ref b_71)] [.int 0, .ref a1])) _
    refine st76 _ ?_
    show Steps _ _ _ (T76.setTop (mkF m 51 #[.val (.ref a1), .val (.ref b), .val (.int 0), .val (.int 1), .val .null, .val (.ref b_71)] [])) _
    refine XS.aloadN X76.here hx rfl (hB d18_51) rfl rfl ?_
    refine XS.aload X76.here hx rfl (hB d18_52) rfl rfl ?_
    refine st80 _ ?_
    show Steps _ _ _ (T80.setTop (mkF m 57 #[.val (.ref a1), .val (.ref b), .val (.int 0), .val (.int 1), .val .null, .val (.ref b_71)] [])) _
    exact X80.returnOut hx Bd.returns (hB d18_57) hr
  · show QviL1 Z G1 fm a1 b ka c0 h0 n0 _ T80.heap _
    rw [e80]
    exact ⟨b_71, kb_71, rfl, N80, K0_81, f82, f83, Fw80, f84⟩
theorem d19_0 : decode jdk_42_method_3_code 0 = .ok (.aload_n 0, 1) := by decide +kernel
theorem d19_1 : decode jdk_42_method_3_code 1 = .ok (.aload_n 1, 1) := by decide +kernel
theorem d19_2 : decode jdk_42_method_3_code 2 = .ok (.iconst 0, 1) := by decide +kernel
theorem d19_3 : decode jdk_42_method_3_code 3 = .ok (.aload_n 1, 1) := by decide +kernel
theorem d19_4 : decode jdk_42_method_3_code 4 = .ok (.arraylength, 1) := by decide +kernel
theorem d19_5 : decode jdk_42_method_3_code 5 = .ok (.aconst_null, 1) := by decide +kernel
theorem d19_6 : decode jdk_42_method_3_code 6 = .ok (.invokespecial 27, 3) := by decide +kernel
theorem pd___CIILjava_lang_Void__V : parseMethodDescriptor "([CIILjava/lang/Void;)V" = some ⟨[(.array .char), .int, .int, (.object "java/lang/Void")], none⟩ := by decide +kernel
theorem d19_9 : decode jdk_42_method_3_code 9 = .ok (.return_, 1) := by decide +kernel
def QcfaW1 (Z : State) (G1 : Int32) (fm : Value) (b : Addr) (kb : ClassId) (vs : List Value) (h0 : Heap) (n0 : Nat) (v : Option Value) (h : Heap) (L : List Loc) : Prop := v = some (.int 1) ∧ Fr n0 L ∧ h = h0
theorem rmcfaW1 (l : Launch) (Z : State) (a0 : Array Value) (G1 : Int32) (fm : Value) (hG : Glob Z a0 G1 fm) (ws : List Jvm.Cond) (b : Addr) (kb : ClassId) (vs : List Value) (h0 : Heap) (n0 : Nat) (Z0 : n0 ≤ h0.size) (X00 : Old Z n0 h0) (V_b : Arv Z h0 b kb .byte (2 : Int32) vs (.int 0)) :
    Met l Z h0 y17 jdk_52_method_15_code 2 (some .byte) ws (Room.mk 0 0 0 0) #[.ref b, .int 1] (QcfaW1 Z G1 fm b kb vs h0 n0) := by
  obtain ⟨hw, O_cs, P_cs, O_as, O_hi, O_lo, O_fm, R_fm⟩ := id hG
  have W := @own_W _ _ hw
  refine own_go "java/lang/StringUTF16" rfl (plainFor_of_name pn_java_lang_StringUTF16) ?_
  intro p e s m below meth c s₁ Bd hx hby hml hown hnm X0 e0 hZ
  have hB := @hb _ _ hby
  have N0 := Fr.nil n0
  obtain ⟨clq88, Arq88, qaq88, Sq88, Nq88, Hq88, Gq88⟩ := id V_b
  obtain ⟨fs, hr, hrun, hended, hW, hsame⟩ := X0.leave (v := some (.int 1)) (fun h => by rw [Bd.returns] at h; cases h)
  refine ⟨_, _, castTop (ef_jdk_52_method_15_code_RI m b (1 : Int32)) ?_, hrun, hended, _, _, rfl, ?_, ⟨_, rfl⟩, hW, hsame.mono (own_ble rfl) (own_ble rfl)⟩
  · show Steps _ _ _ (s₁.setTop (mkF m 0 #[.val (.ref b), .val (.int 1)] [])) _
    refine XS.iloadN X0.here hx rfl (hB d17_0) rfl ?_
    refine XS.aloadN X0.here hx rfl (hB d17_1) rfl rfl ?_
    refine X0.arraylength hx (own_cell e0 Arq88.1) (State.isArrayOf_alike hZ.alike Arq88.2.1) (g := (mkF m 2 #[.val (.ref b), .val (.int 1)] [.ref b, .int 1])) rfl rfl (hB d17_2) _ ?_
    rw [len_of Sq88 Nq88]
    refine XS.isub X0.here hx rfl (hB d17_3) rfl ?_
    refine XS.bipush X0.here hx rfl (hB d17_4) ?_
    refine XS.iushr X0.here hx rfl (hB d17_6) rfl ?_
    refine XS.i2b X0.here hx rfl (hB d17_7) rfl ?_
    exact retN X0 hx (t := .byte) Bd.returns (by simp) (hB d17_8) hr
  · show QcfaW1 Z G1 fm b kb vs h0 n0 _ s₁.heap _
    rw [e0]
    exact ⟨rfl, N0, rfl⟩
def QviW1 (Z : State) (G1 : Int32) (fm : Value) (a1 : Addr) (b : Addr) (ka : ClassId) (c0 : Int32) (h0 : Heap) (n0 : Nat) (v : Option Value) (h : Heap) (L : List Loc) : Prop := ∃ t : Addr, ∃ kb : ClassId, v = none ∧ Fr n0 L ∧ Keep h0 h [a1] ∧ Exa Z h a1 "java/lang/String" ∧ Fld Z h a1 "java/lang/String" "coder" "B" (.int 1) ∧ Fld Z h a1 "java/lang/String" "value" "[B" (.ref t) ∧ Arv Z h t kb .byte (2 : Int32) [(.int (((c0 >>> ((0 : Int32) &&& 31)).toInt8.toInt32).toInt8.toInt32)), (.int (((c0 >>> ((8 : Int32) &&& 31)).toInt8.toInt32).toInt8.toInt32))] (.int 0)
theorem rmviW1 (l : Launch) (Z : State) (a0 : Array Value) (G1 : Int32) (fm : Value) (hG : Glob Z a0 G1 fm) (ws : List Jvm.Cond) (a1 : Addr) (b : Addr) (ka : ClassId) (c0 : Int32) (h0 : Heap) (n0 : Nat) (Z0 : n0 ≤ h0.size) (X00 : Old Z n0 h0) (E_a1 : Exa Z h0 a1 "java/lang/String") (g_a1 : n0 ≤ a1) (F_value_a1 : Fld Z h0 a1 "java/lang/String" "value" "[B" .null) (F_coder_a1 : Fld Z h0 a1 "java/lang/String" "coder" "B" (.int 0)) (V_b : Arv Z h0 b ka .char (1 : Int32) [.int c0] (.int 0)) (ne_b_a1 : b ≠ a1) (hwid : ¬ (¬ ((255 : Int32) < c0))) (hu : ∀ c ∈ ([c0] : List Int32), own_u16 c) :
    Met l Z h0 y18 jdk_42_method_149_code 6 none ws (Room.mk 4 2 3 57) #[.ref a1, .ref b, .int 0, .int 1, .null] (QviW1 Z G1 fm a1 b ka c0 h0 n0) := by
  obtain ⟨hw, O_cs, P_cs, O_as, O_hi, O_lo, O_fm, R_fm⟩ := id hG
  have W := @own_W _ _ hw
  refine own_go "java/lang/String" rfl (plainFor_of_name pn_java_lang_String) ?_
  intro p e s m below meth c s₁ Bd hx hby hml hown hnm X0 e0 hZ
  have hB := @hb _ _ hby
  have N0 := Fr.nil n0
  obtain ⟨T89, X89, e89, st89⟩ := initO X0 hx hZ hown (W 12 rfl) (W 13 rfl) (W 14 rfl) e0 (g := (mkF m 1 #[.val (.ref a1), .val (.ref b), .val (.int 0), .val (.int 1), .val .null, .unset] [.ref a1])) rfl (by rw [hml]; rfl) rfl (hB d18_1) (by decide) (W := 0) (by show 2 * 0 + _ ≤ _; exact Nat.le_of_eq rfl) (by decide)
  obtain ⟨T90, X90, e90, st90⟩ := getS2 X89 hx hZ hown (host := "") (Or.inl (W 37 rfl)) Via.refl e89 (O_cs.ext X00.2) (g := (mkF m 27 #[.val (.ref a1), .val (.ref b), .val (.int 0), .val (.int 1), .val .null, .unset] [])) rfl (hB d18_27)
  -- pc 36: java/lang/StringUTF16.compress
  obtain ⟨_, _, ⟨T91, L91, k91, n91⟩, -, X91, ⟨Lc91, hQ91, l91, y91, z91⟩, st91⟩ := Jvm.LawKit.callS X90 hx (y := y16) hown (mvT hZ (W 38 rfl)) (mvT hZ (W 39 rfl)) (mvT hZ (W 40 rfl)) (mvT hZ (W 41 rfl)) (by decide) (backOf (W := 0) (rmc3W1 l Z a0 G1 fm hG [] b ka c0 h0 n0 Z0 X00 V_b (by first | assumption | decide | rfl) (by first | assumption | decide | rfl)) hZ (W 41 rfl) (W 40 rfl) (by decide) (by decide)) (g := (mkF m 36 #[.val (.ref a1), .val (.ref b), .val (.int 0), .val (.int 1), .val .null, .unset] [.int 1, .int 0, .ref b])) rfl (by rw [hml]; rfl) (argsL := [.ref b, .int 0, .int 1]) (rest := []) (lenOf pd___CII__B rfl) rfl (by show 2 * 0 + _ ≤ _; exact Nat.le_of_eq rfl) (hB d18_36) (fun _ _ => ⟨rfl, e90, (by decide : 0 + 2 ≤ _), (by decide : 0 + 3 ≤ _)⟩)
  dsimp only [Pt.U, Pt.locs, Pt.cells, Pt.slots] at X91 l91 y91 z91 st91 hQ91
  subst l91 y91 z91
  obtain ⟨b_91, kb_91, rfl, N91q, K91, f91_0, f91_1⟩ := hQ91
  have N91 := Fr.app N0 N91q
  have Z92 : n0 ≤ T91.heap.size := Nat.le_trans Z0 K91.1
  have K0_92 : Keep h0 T91.heap [a1] := (Keep.refl h0 [a1]).trans K91 all0
  have O92 : Old Z n0 T91.heap := X00.keep K91 all0
  have lo_b_91 : h0.size ≤ b_91 := f91_0
  have g_b_91 : n0 ≤ b_91 := Nat.le_trans Z0 lo_b_91
  have l0_b_91 : h0.size ≤ b_91 := Nat.le_trans (Keep.refl h0 [a1]).1 lo_b_91
  -- pc 45: java/lang/StringUTF16.coderFromArrayLen
  obtain ⟨_, _, ⟨T93, L93, k93, n93⟩, -, X93, ⟨Lc93, hQ93, l93, y93, z93⟩, st93⟩ := Jvm.LawKit.callS X91 hx (y := y17) hown (mvT hZ (W 45 rfl)) (mvT hZ (W 46 rfl)) (mvT hZ (W 40 rfl)) (mvT hZ (W 47 rfl)) (by decide) (backOf (W := 1) (rmcfaW1 l Z a0 G1 fm hG [] b_91 kb_91 ([(.int (((c0 >>> ((0 : Int32) &&& 31)).toInt8.toInt32).toInt8.toInt32)), (.int (((c0 >>> ((8 : Int32) &&& 31)).toInt8.toInt32).toInt8.toInt32))] : List Value) T91.heap n0 Z92 O92 f91_1) hZ (W 47 rfl) (W 40 rfl) (by decide) (by decide)) (g := (mkF m 45 #[.val (.ref a1), .val (.ref b), .val (.int 0), .val (.int 1), .val .null, .val (.ref b_91)] [.int 1, .ref b_91, .ref a1])) rfl (by rw [hml]; rfl) (argsL := [.ref b_91, .int 1]) (rest := [.ref a1]) (lenOf pd___BI_B rfl) rfl (by show 2 * 0 + _ ≤ _; exact Nat.le_of_eq rfl) (hB d18_45) (fun _ _ => ⟨rfl, rfl, (by decide : 2 + 0 ≤ _), (by decide : 3 + 0 ≤ _)⟩)
  dsimp only [Pt.U, Pt.locs, Pt.cells, Pt.slots] at X93 l93 y93 z93 st93 hQ93
  subst l93 y93 z93
  obtain ⟨rfl, N93q, eq93⟩ := hQ93
  have N93 := Fr.app N91 N93q
  have f94 := (E_a1.keep K91)
  have f95 := (F_coder_a1.keep K91 nin0)
  obtain ⟨T96, h96, X96, e96, W96, st96⟩ := putF X93 hx hZ hown (host := "") (Or.inl (W 22 rfl)) Via.refl eq93 f95 f94 (Or.inr ⟨(W 18 rfl), rfl, hnm⟩) (W 3 rfl) (ty := .byte) (by decide) rfl rfl (g := (mkF m 48 #[.val (.ref a1), .val (.ref b), .val (.int 0), .val (.int 1), .val .null, .val (.ref b_91)] [.int 1, .ref a1])) rfl rfl (hB d18_48)
  have Fw96 := f95.same W96
  have Z97 : n0 ≤ h96.size := Nat.le_trans Z92 (Keep.of_wr W96).1
  have K0_97 : Keep h0 h96 [a1] := K0_92.wr W96 (Or.inl (List.mem_of_getElem? (i := 0) rfl))
  have O97 : Old Z n0 h96 := O92.wr W96 g_a1
  have N96 := Fr.snoc X96 N93 g_a1
  have f98 := (f94.wr W96)
  have f99 := ((F_value_a1.keep K91 nin0).other W96 (Or.inr (slot_ne (Or.inr (W 17 rfl)) (Or.inr (W 18 rfl)) (by decide) (t := (.array .byte)) (t' := .byte) (by decide) (by decide))))
  obtain ⟨T100, h100, X100, e100, W100, st100⟩ := putF X96 hx hZ hown (host := "") (Or.inl (W 21 rfl)) Via.refl e96 f99 f98 (Or.inr ⟨(W 17 rfl), rfl, hnm⟩) (W 3 rfl) (ty := (.array .byte)) (by decide) rfl rfl (g := (mkF m 54 #[.val (.ref a1), .val (.ref b), .val (.int 0), .val (.int 1), .val .null, .val (.ref b_91)] [.ref b_91, .ref a1])) rfl rfl (hB d18_54)
  have Fw100 := f99.same W100
  have Z101 : n0 ≤ h100.size := Nat.le_trans Z97 (Keep.of_wr W100).1
  have K0_101 : Keep h0 h100 [a1] := K0_97.wr W100 (Or.inl (List.mem_of_getElem? (i := 0) rfl))
  have O101 : Old Z n0 h100 := O97.wr W100 g_a1
  have N100 := Fr.snoc X100 N96 g_a1
  have f102 := (f98.wr W100)
  have f103 := (Fw96.other W100 (Or.inr (slot_ne (Or.inr (W 18 rfl)) (Or.inr (W 17 rfl)) (by decide) (t := .byte) (t' := (.array .byte)) (by decide) (by decide))))
  have f104 := ((f91_1.other W96 (Ne.symm (Nat.ne_of_lt (Nat.lt_of_lt_of_le E_a1.lt lo_b_91)))).other W100 (Ne.symm (Nat.ne_of_lt (Nat.lt_of_lt_of_le E_a1.lt lo_b_91))))
  obtain ⟨fs, hr, hrun, hended, hW, hsame⟩ := X100.leave (v := none) (fun _ => rfl)
  refine ⟨_, _, castTop (ef_jdk_42_method_149_code_RRIIN m a1 b (0 : Int32) (1 : Int32)) ?_, hrun, hended, _, _, rfl, ?_, ⟨_, rfl⟩, hW, hsame.mono (own_ble rfl) (own_ble rfl)⟩
  · show Steps _ _ _ (s₁.setTop (mkF m 0 #[.val (.ref a1), .val (.ref b), .val (.int 0), .val (.int 1), .val .null, .unset] [])) _
    refine XS.aloadN X0.here hx rfl (hB d18_0) rfl rfl ?_
    refine st89 _ ?_
    show Steps _ _ _ (T89.setTop (mkF m 4 #[.val (.ref a1), .val (.ref b), .val (.int 0), .val (.int 1), .val .null, .unset] [])) _
    refine XS.iloadN X89.here hx rfl (hB d18_4) rfl ?_
    refine XS.ifYes X89.here hx rfl (pc0 := 5) (pc' := 27) rfl (hB d18_5) rfl ((if0 _ _).trans (feq (by decide : ¬ ((1 : Int32) = (0 : Int32)))).2) (by decide) (by decide) ?_
    refine st90 _ ?_
    show Steps _ _ _ (T90.setTop (mkF m 30 #[.val (.ref a1), .val (.ref b), .val (.int 0), .val (.int 1), .val .null, .unset] [.int G1])) _
    refine XS.ifNo X90.here hx rfl (hB d18_30) rfl ((if0 _ _).trans (feq (P_cs : ¬ (G1 = (0 : Int32)))).1) ?_
    refine XS.aloadN X90.here hx rfl (hB d18_33) rfl rfl ?_
    refine XS.iloadN X90.here hx rfl (hB d18_34) rfl ?_
    refine XS.iloadN X90.here hx rfl (hB d18_35) rfl ?_
    refine st91 _ ?_
    show Steps _ _ _ (T91.setTop (mkF m 39 #[.val (.ref a1), .val (.ref b), .val (.int 0), .val (.int 1), .val .null, .unset] [.ref b_91])) _
    refine XS.astore X91.here hx rfl (hB d18_39) rfl rfl (l' := #[.val (.ref a1), .val (.ref b), .val (.int 0), .val (.int 1), .val .null, .val (.ref b_91)]) rfl ?_
    refine XS.aloadN X91.here hx rfl (hB d18_41) rfl rfl ?_
    refine XS.aload X91.here hx rfl (hB d18_42) rfl rfl ?_
    refine XS.iloadN X91.here hx rfl (hB d18_44) rfl ?_
    refine st93 _ ?_
    show Steps _ _ _ (T93.setTop (mkF m 48 #[.val (.ref a1), .val (.ref b), .val (.int 0), .val (.int 1), .val .null, .val (.ref b_91)] [.int 1, .ref a1])) _
    refine st96 _ ?_
    show Steps _ _ _ (T96.setTop (mkF m 51 #[.val (.ref a1), .val (.ref b), .val (.int 0), .val (.int 1), .val .null, .val (.ref b_91)] [])) _
    refine XS.aloadN X96.here hx rfl (hB d18_51) rfl rfl ?_
    refine XS.aload X96.here hx rfl (hB d18_52) rfl rfl ?_
    refine st100 _ ?_
    show Steps _ _ _ (T100.setTop (mkF m 57 #[.val (.ref a1), .val (.ref b), .val (.int 0), .val (.int 1), .val .null, .val (.ref b_91)] [])) _
    exact X100.returnOut hx Bd.returns (hB d18_57) hr
  · show QviW1 Z G1 fm a1 b ka c0 h0 n0 _ T100.heap _
    rw [e100]
    exact ⟨b_91, kb_91, rfl, N100, K0_101, f102, f103, Fw100, f104⟩
theorem own_all1 {P : Int32 → Prop} {c0 : Int32} (h0 : P c0) : ∀ c ∈ ([c0] : List Int32), P c := by
  intro c hc
  simp only [List.mem_cons, List.not_mem_nil, or_false] at hc
  rcases hc with rfl <;> assumption
def Qini1 (Z : State) (G1 : Int32) (fm : Value) (a1 : Addr) (b : Addr) (ka : ClassId) (c0 : Int32) (h0 : Heap) (n0 : Nat) (v : Option Value) (h : Heap) (L : List Loc) : Prop := ∃ t : Addr, ∃ kb : ClassId, ∃ cd : Int32, ∃ z : Int32, ∃ vs : List Value, v = none ∧ Fr n0 L ∧ Keep h0 h [a1] ∧ Exa Z h a1 "java/lang/String" ∧ Fld Z h a1 "java/lang/String" "coder" "B" (.int cd) ∧ Fld Z h a1 "java/lang/String" "value" "[B" (.ref t) ∧ Arv Z h t kb .byte z vs (.int 0) ∧ own_str cd z vs [c0]
theorem ef_jdk_42_method_3_code_RR (m : MethodId) (x0 : Addr) (x1 : Addr) : entryFrame m #[.ref x0, .ref x1] 2 = mkF m 0 #[.val (.ref x0), .val (.ref x1)] [] := by first | (simp [entryFrame, mkF, argsToLocals, Value.category]; done) | rfl
abbrev y19 : MethodName := ⟨"java/lang/String", "<init>", "([C)V"⟩
theorem rmini1_L (l : Launch) (Z : State) (a0 : Array Value) (G1 : Int32) (fm : Value) (hG : Glob Z a0 G1 fm) (ws : List Jvm.Cond) (a1 : Addr) (b : Addr) (ka : ClassId) (c0 : Int32) (h0 : Heap) (n0 : Nat) (Z0 : n0 ≤ h0.size) (X00 : Old Z n0 h0) (E_a1 : Exa Z h0 a1 "java/lang/String") (g_a1 : n0 ≤ a1) (F_value_a1 : Fld Z h0 a1 "java/lang/String" "value" "[B" .null) (F_coder_a1 : Fld Z h0 a1 "java/lang/String" "coder" "B" (.int 0)) (V_b : Arv Z h0 b ka .char (1 : Int32) [.int c0] (.int 0)) (ne_b_a1 : b ≠ a1) (hl0 : ¬ ((255 : Int32) < c0)) :
    Met l Z h0 y19 jdk_42_method_3_code 2 none ws (Room.mk 5 2 3 74) #[.ref a1, .ref b] (Qini1 Z G1 fm a1 b ka c0 h0 n0) := by
  obtain ⟨hw, O_cs, P_cs, O_as, O_hi, O_lo, O_fm, R_fm⟩ := id hG
  have W := @own_W _ _ hw
  refine own_go "java/lang/String" rfl (plainFor_of_name pn_java_lang_String) ?_
  intro p e s m below meth c s₁ Bd hx hby hml hown hnm X0 e0 hZ
  have hB := @hb _ _ hby
  have N0 := Fr.nil n0
  obtain ⟨clq85, Arq85, qaq85, Sq85, Nq85, Hq85, Gq85⟩ := id V_b
  -- pc 6: java/lang/String.<init>
  obtain ⟨_, _, ⟨T86, L86, k86, n86⟩, -, X86, ⟨Lc86, hQ86, l86, y86, z86⟩, st86⟩ := X0.specialBack hx (y := y18) rfl hown (mvT hZ (W 8 rfl)) (mvT hZ (W 9 rfl)) (mvT hZ (W 11 rfl)) (by decide) (backOf (W := 0) (rmviL1 l Z a0 G1 fm hG [] a1 b ka c0 h0 n0 Z0 X00 E_a1 g_a1 F_value_a1 F_coder_a1 V_b ne_b_a1 (by first | assumption | decide | rfl)) hZ (W 11 rfl) (W 4 rfl) (by decide) (by decide)) (g := (mkF m 6 #[.val (.ref a1), .val (.ref b)] [.null, .int 1, .int 0, .ref b, .ref a1])) rfl (by rw [hml]; rfl) (Steps.refl _) (a := a1) (argsL := [.ref b, .int 0, .int 1, .null]) (rest := []) (lenOf pd___CIILjava_lang_Void__V rfl) rfl (by show 2 * 0 + _ ≤ _; exact Nat.le_of_eq rfl) (hB d19_6) (fun _ _ => ⟨rfl, e0, (by decide : 0 + 1 ≤ _), (by decide : 0 + 1 ≤ _)⟩)
  dsimp only [Pt.U, Pt.locs, Pt.cells, Pt.slots] at X86 l86 y86 z86 st86 hQ86
  subst l86 y86 z86
  obtain ⟨t_86, kb_86, rfl, N86q, K86, f86_0, f86_1, f86_2, f86_3⟩ := hQ86
  have N86 := Fr.app N0 N86q
  have Z87 : n0 ≤ T86.heap.size := Nat.le_trans Z0 K86.1
  have K0_87 : Keep h0 T86.heap [a1] := (Keep.refl h0 [a1]).trans K86 (allS (Or.inl (List.mem_of_getElem? (i := 0) rfl)) all0)
  have O87 : Old Z n0 T86.heap := X00.keep K86 (allS g_a1 all0)
  obtain ⟨fs, hr, hrun, hended, hW, hsame⟩ := X86.leave (v := none) (fun _ => rfl)
  refine ⟨_, _, castTop (ef_jdk_42_method_3_code_RR m a1 b) ?_, hrun, hended, _, _, rfl, ?_, ⟨_, rfl⟩, hW, hsame.mono (own_ble rfl) (own_ble rfl)⟩
  · show Steps _ _ _ (s₁.setTop (mkF m 0 #[.val (.ref a1), .val (.ref b)] [])) _
    refine XS.aloadN X0.here hx rfl (hB d19_0) rfl rfl ?_
    refine XS.aloadN X0.here hx rfl (hB d19_1) rfl rfl ?_
    refine XS.iconst X0.here hx rfl (hB d19_2) ?_
    refine XS.aloadN X0.here hx rfl (hB d19_3) rfl rfl ?_
    refine X0.arraylength hx (own_cell e0 Arq85.1) (State.isArrayOf_alike hZ.alike Arq85.2.1) (g := (mkF m 4 #[.val (.ref a1), .val (.ref b)] [.ref b, .int 0, .ref b, .ref a1])) rfl rfl (hB d19_4) _ ?_
    rw [len_of Sq85 Nq85]
    refine XS.aconstNull X0.here hx rfl (hB d19_5) ?_
    refine st86.trans ?_
    show Steps _ _ _ (T86.setTop (mkF m 9 #[.val (.ref a1), .val (.ref b)] [])) _
    exact X86.returnOut hx Bd.returns (hB d19_9) hr
  · show Qini1 Z G1 fm a1 b ka c0 h0 n0 _ T86.heap _
    exact ⟨t_86, kb_86, (0 : Int32), (1 : Int32), _, rfl, N86, K0_87, f86_0, f86_1, f86_2, f86_3, Or.inl ⟨rfl, rfl, rfl, own_all1 hl0⟩⟩
theorem rmini1_W (l : Launch) (Z : State) (a0 : Array Value) (G1 : Int32) (fm : Value) (hG : Glob Z a0 G1 fm) (ws : List Jvm.Cond) (a1 : Addr) (b : Addr) (ka : ClassId) (c0 : Int32) (h0 : Heap) (n0 : Nat) (Z0 : n0 ≤ h0.size) (X00 : Old Z n0 h0) (E_a1 : Exa Z h0 a1 "java/lang/String") (g_a1 : n0 ≤ a1) (F_value_a1 : Fld Z h0 a1 "java/lang/String" "value" "[B" .null) (F_coder_a1 : Fld Z h0 a1 "java/lang/String" "coder" "B" (.int 0)) (V_b : Arv Z h0 b ka .char (1 : Int32) [.int c0] (.int 0)) (ne_b_a1 : b ≠ a1) (hwid : ¬ (¬ ((255 : Int32) < c0))) (hu : ∀ c ∈ ([c0] : List Int32), own_u16 c) :
    Met l Z h0 y19 jdk_42_method_3_code 2 none ws (Room.mk 5 2 3 74) #[.ref a1, .ref b] (Qini1 Z G1 fm a1 b ka c0 h0 n0) := by
  obtain ⟨hw, O_cs, P_cs, O_as, O_hi, O_lo, O_fm, R_fm⟩ := id hG
  have W := @own_W _ _ hw
  refine own_go "java/lang/String" rfl (plainFor_of_name pn_java_lang_String) ?_
  intro p e s m below meth c s₁ Bd hx hby hml hown hnm X0 e0 hZ
  have hB := @hb _ _ hby
  have N0 := Fr.nil n0
  obtain ⟨clq105, Arq105, qaq105, Sq105, Nq105, Hq105, Gq105⟩ := id V_b
  -- pc 6: java/lang/String.<init>
  obtain ⟨_, _, ⟨T106, L106, k106, n106⟩, -, X106, ⟨Lc106, hQ106, l106, y106, z106⟩, st106⟩ := X0.specialBack hx (y := y18) rfl hown (mvT hZ (W 8 rfl)) (mvT hZ (W 9 rfl)) (mvT hZ (W 11 rfl)) (by decide) (backOf (W := 0) (rmviW1 l Z a0 G1 fm hG [] a1 b ka c0 h0 n0 Z0 X00 E_a1 g_a1 F_value_a1 F_coder_a1 V_b ne_b_a1 (by first | assumption | decide | rfl) (by first | assumption | decide | rfl)) hZ (W 11 rfl) (W 4 rfl) (by decide) (by decide)) (g := (mkF m 6 #[.val (.ref a1), .val (.ref b)] [.null, .int 1, .int 0, .ref b, .ref a1])) rfl (by rw [hml]; rfl) (Steps.refl _) (a := a1) (argsL := [.ref b, .int 0, .int 1, .null]) (rest := []) (lenOf pd___CIILjava_lang_Void__V rfl) rfl (by show 2 * 0 + _ ≤ _; exact Nat.le_of_eq rfl) (hB d19_6) (fun _ _ => ⟨rfl, e0, (by decide : 0 + 2 ≤ _), (by decide : 0 + 3 ≤ _)⟩)
  dsimp only [Pt.U, Pt.locs, Pt.cells, Pt.slots] at X106 l106 y106 z106 st106 hQ106
  subst l106 y106 z106
  obtain ⟨t_106, kb_106, rfl, N106q, K106, f106_0, f106_1, f106_2, f106_3⟩ := hQ106
  have N106 := Fr.app N0 N106q
  have Z107 : n0 ≤ T106.heap.size := Nat.le_trans Z0 K106.1
  have K0_107 : Keep h0 T106.heap [a1] := (Keep.refl h0 [a1]).trans K106 (allS (Or.inl (List.mem_of_getElem? (i := 0) rfl)) all0)
  have O107 : Old Z n0 T106.heap := X00.keep K106 (allS g_a1 all0)
  obtain ⟨fs, hr, hrun, hended, hW, hsame⟩ := X106.leave (v := none) (fun _ => rfl)
  refine ⟨_, _, castTop (ef_jdk_42_method_3_code_RR m a1 b) ?_, hrun, hended, _, _, rfl, ?_, ⟨_, rfl⟩, hW, hsame.mono (own_ble rfl) (own_ble rfl)⟩
  · show Steps _ _ _ (s₁.setTop (mkF m 0 #[.val (.ref a1), .val (.ref b)] [])) _
    refine XS.aloadN X0.here hx rfl (hB d19_0) rfl rfl ?_
    refine XS.aloadN X0.here hx rfl (hB d19_1) rfl rfl ?_
    refine XS.iconst X0.here hx rfl (hB d19_2) ?_
    refine XS.aloadN X0.here hx rfl (hB d19_3) rfl rfl ?_
    refine X0.arraylength hx (own_cell e0 Arq105.1) (State.isArrayOf_alike hZ.alike Arq105.2.1) (g := (mkF m 4 #[.val (.ref a1), .val (.ref b)] [.ref b, .int 0, .ref b, .ref a1])) rfl rfl (hB d19_4) _ ?_
    rw [len_of Sq105 Nq105]
    refine XS.aconstNull X0.here hx rfl (hB d19_5) ?_
    refine st106.trans ?_
    show Steps _ _ _ (T106.setTop (mkF m 9 #[.val (.ref a1), .val (.ref b)] [])) _
    exact X106.returnOut hx Bd.returns (hB d19_9) hr
  · show Qini1 Z G1 fm a1 b ka c0 h0 n0 _ T106.heap _
    exact ⟨t_106, kb_106, (1 : Int32), (2 : Int32), _, rfl, N106, K0_107, f106_0, f106_1, f106_2, f106_3, Or.inr ⟨rfl, rfl, rfl⟩⟩
theorem rmini1 (l : Launch) (Z : State) (a0 : Array Value) (G1 : Int32) (fm : Value) (hG : Glob Z a0 G1 fm) (ws : List Jvm.Cond) (a1 : Addr) (b : Addr) (ka : ClassId) (c0 : Int32) (h0 : Heap) (n0 : Nat) (Z0 : n0 ≤ h0.size) (X00 : Old Z n0 h0) (E_a1 : Exa Z h0 a1 "java/lang/String") (g_a1 : n0 ≤ a1) (F_value_a1 : Fld Z h0 a1 "java/lang/String" "value" "[B" .null) (F_coder_a1 : Fld Z h0 a1 "java/lang/String" "coder" "B" (.int 0)) (V_b : Arv Z h0 b ka .char (1 : Int32) [.int c0] (.int 0)) (ne_b_a1 : b ≠ a1) (hu : ∀ c ∈ ([c0] : List Int32), own_u16 c) :
    Met l Z h0 y19 jdk_42_method_3_code 2 none ws (Room.mk 5 2 3 74) #[.ref a1, .ref b] (Qini1 Z G1 fm a1 b ka c0 h0 n0) := by
  by_cases hwid : (¬ ((255 : Int32) < c0))
  · have hl0 := hwid
    exact rmini1_L l Z a0 G1 fm hG ws a1 b ka c0 h0 n0 Z0 X00 E_a1 g_a1 F_value_a1 F_coder_a1 V_b ne_b_a1 hl0
  · exact rmini1_W l Z a0 G1 fm hG ws a1 b ka c0 h0 n0 Z0 X00 E_a1 g_a1 F_value_a1 F_coder_a1 V_b ne_b_a1 hwid hu
def Qc5L2 (Z : State) (G1 : Int32) (fm : Value) (a1 : Addr) (a2 : Addr) (ka : ClassId) (kb : ClassId) (c0 : Int32) (c1 : Int32) (h0 : Heap) (n0 : Nat) (v : Option Value) (h : Heap) (L : List Loc) : Prop := v = some (.int 2) ∧ Fr n0 L ∧ Keep h0 h [a2] ∧ Arv Z h a2 kb .byte (2 : Int32) [(.int ((c0.toInt8.toInt32).toInt8.toInt32)), (.int ((c1.toInt8.toInt32).toInt8.toInt32))] (.int 0)
theorem rmc5L2 (l : Launch) (Z : State) (a0 : Array Value) (G1 : Int32) (fm : Value) (hG : Glob Z a0 G1 fm) (ws : List Jvm.Cond) (a1 : Addr) (a2 : Addr) (ka : ClassId) (kb : ClassId) (c0 : Int32) (c1 : Int32) (h0 : Heap) (n0 : Nat) (Z0 : n0 ≤ h0.size) (X00 : Old Z n0 h0) (V_a1 : Arv Z h0 a1 ka .char (2 : Int32) [.int c0, .int c1] (.int 0)) (V_a2 : Arv Z h0 a2 kb .byte (2 : Int32) [.int 0, .int 0] (.int 0)) (g_a2 : n0 ≤ a2) (ne_a1_a2 : a1 ≠ a2) (hl0 : ¬ ((255 : Int32) < c0)) (hl1 : ¬ ((255 : Int32) < c1)) :
    Met l Z h0 y12 jdk_52_method_21_code 7 (some .int) ws (Room.mk 0 0 0 0) #[.ref a1, .int 0, .ref a2, .int 0, .int 2] (Qc5L2 Z G1 fm a1 a2 ka kb c0 c1 h0 n0) := by
  obtain ⟨hw, O_cs, P_cs, O_as, O_hi, O_lo, O_fm, R_fm⟩ := id hG
  have W := @own_W _ _ hw
  refine own_go "java/lang/StringUTF16" rfl (plainFor_of_name pn_java_lang_StringUTF16) ?_
  intro p e s m below meth c s₁ Bd hx hby hml hown hnm X0 e0 hZ
  have hB := @hb _ _ hby
  have N0 := Fr.nil n0
  obtain ⟨clq108, Arq108, qaq108, Sq108, Nq108, Hq108, Gq108⟩ := id V_a1
  have hinq108 := inb_of (j := (0 : Int32)) Sq108 ⟨by decide, by decide⟩
  have hatq108 := Has.at (v := (.int c0)) Hq108 hinq108 rfl
  obtain ⟨clq109, Arq109, qaq109, Sq109, Nq109, Hq109, Gq109⟩ := id V_a2
  have hinq109 := inb_of (j := (0 : Int32)) Sq109 ⟨by decide, by decide⟩
  obtain ⟨T110, h110, X110, e110, W110, st110⟩ := stB X0 hx hZ e0 Arq109 (j := (0 : Int32)) hinq109 (g := (mkF m 31 #[.val (.ref a1), .val (.int 0), .val (.ref a2), .val (.int 0), .val (.int 2), .val (.int 0), .val (.int c0)] [(.int (c0.toInt8.toInt32)), .int 0, .ref a2])) rfl rfl (hB d12_31)
  have V110 : Arv Z h110 a2 kb .byte (2 : Int32) [(.int ((c0.toInt8.toInt32).toInt8.toInt32)), .int 0] (.int 0) := Arv.set Arq109 qaq109 Sq109 Nq109 Hq109 Gq109 (fits_nar_byte _) W110 0 rfl (own_ble rfl)
  have Z111 : n0 ≤ h110.size := Nat.le_trans Z0 (Keep.of_wr W110).1
  have K0_111 : Keep h0 h110 [a2] := (Keep.refl h0 [a2]).wr W110 (Or.inl (List.mem_of_getElem? (i := 0) rfl))
  have O111 : Old Z n0 h110 := X00.wr W110 g_a2
  have N110 := Fr.snoc X110 N0 g_a2
  have f112 := (V_a1.other W110 ne_a1_a2)
  obtain ⟨clq113, Arq113, qaq113, Sq113, Nq113, Hq113, Gq113⟩ := id f112
  have hinq113 := inb_of (j := (1 : Int32)) Sq113 ⟨by decide, by decide⟩
  have hatq113 := Has.at (v := (.int c1)) Hq113 hinq113 rfl
  obtain ⟨clq114, Arq114, qaq114, Sq114, Nq114, Hq114, Gq114⟩ := id V110
  have hinq114 := inb_of (j := (1 : Int32)) Sq114 ⟨by decide, by decide⟩
  obtain ⟨T115, h115, X115, e115, W115, st115⟩ := stB X110 hx hZ e110 Arq114 (j := (1 : Int32)) hinq114 (g := (mkF m 31 #[.val (.ref a1), .val (.int 1), .val (.ref a2), .val (.int 1), .val (.int 2), .val (.int 1), .val (.int c1)] [(.int (c1.toInt8.toInt32)), .int 1, .ref a2])) rfl rfl (hB d12_31)
  have V115 : Arv Z h115 a2 kb .byte (2 : Int32) [(.int ((c0.toInt8.toInt32).toInt8.toInt32)), (.int ((c1.toInt8.toInt32).toInt8.toInt32))] (.int 0) := Arv.set Arq114 qaq114 Sq114 Nq114 Hq114 Gq114 (fits_nar_byte _) W115 1 rfl (own_ble rfl)
  have Z116 : n0 ≤ h115.size := Nat.le_trans Z111 (Keep.of_wr W115).1
  have K0_116 : Keep h0 h115 [a2] := K0_111.wr W115 (Or.inl (List.mem_of_getElem? (i := 0) rfl))
  have O116 : Old Z n0 h115 := O111.wr W115 g_a2
  have N115 := Fr.snoc X115 N110 g_a2
  obtain ⟨fs, hr, hrun, hended, hW, hsame⟩ := X115.leave (v := some (.int 2)) (fun h => by rw [Bd.returns] at h; cases h)
  refine ⟨_, _, castTop (ef_jdk_52_method_21_code_RIRII m a1 (0 : Int32) a2 (0 : Int32) (2 : Int32)) ?_, hrun, hended, _, _, rfl, ?_, ⟨_, rfl⟩, hW, hsame.mono (own_ble rfl) (own_ble rfl)⟩
  · show Steps _ _ _ (s₁.setTop (mkF m 0 #[.val (.ref a1), .val (.int 0), .val (.ref a2), .val (.int 0), .val (.int 2), .unset, .unset] [])) _
    refine XS.iconst X0.here hx rfl (hB d12_0) ?_
    refine XS.istore X0.here hx rfl (hB d12_1) rfl (l' := #[.val (.ref a1), .val (.int 0), .val (.ref a2), .val (.int 0), .val (.int 2), .val (.int 0), .unset]) rfl ?_
    refine XS.iload X0.here hx rfl (hB d12_3) rfl ?_
    refine XS.iload X0.here hx rfl (hB d12_5) rfl ?_
    refine XS.icmpNo X0.here hx rfl (hB d12_7) rfl (tlt (by decide : (0 : Int32) < (2 : Int32))).2.1 ?_
    refine XS.aloadN X0.here hx rfl (hB d12_10) rfl rfl ?_
    refine XS.iloadN X0.here hx rfl (hB d12_11) rfl ?_
    refine X0.caload hx (j := (0 : Int32)) (v := (.int c0)) (own_cell e0 Arq108.1) (State.isArrayOf_alike hZ.alike Arq108.2.1) Arq108.2.2 hinq108 hatq108 (g := (mkF m 12 #[.val (.ref a1), .val (.int 0), .val (.ref a2), .val (.int 0), .val (.int 2), .val (.int 0), .unset] [.int 0, .ref a1])) rfl rfl (hB d12_12) _ ?_
    refine XS.istore X0.here hx rfl (hB d12_13) rfl (l' := #[.val (.ref a1), .val (.int 0), .val (.ref a2), .val (.int 0), .val (.int 2), .val (.int 0), .val (.int c0)]) rfl ?_
    refine XS.iload X0.here hx rfl (hB d12_15) rfl ?_
    refine XS.sipush X0.here hx rfl (hB d12_17) ?_
    refine XS.icmpYes X0.here hx rfl (pc0 := 20) (pc' := 26) rfl (hB d12_20) rfl (flt (hl0 : ¬ ((255 : Int32) < c0))).2.2.2 (by decide) (by decide) ?_
    refine XS.aloadN X0.here hx rfl (hB d12_26) rfl rfl ?_
    refine XS.iloadN X0.here hx rfl (hB d12_27) rfl ?_
    refine XS.iload X0.here hx rfl (hB d12_28) rfl ?_
    refine XS.i2b X0.here hx rfl (hB d12_30) rfl ?_
    show Steps _ _ _ (s₁.setTop (mkF m 31 #[.val (.ref a1), .val (.int 0), .val (.ref a2), .val (.int 0), .val (.int 2), .val (.int 0), .val (.int c0)] [(.int (c0.toInt8.toInt32)), .int 0, .ref a2])) _
    refine st110 _ ?_
    show Steps _ _ _ (T110.setTop (mkF m 32 #[.val (.ref a1), .val (.int 0), .val (.ref a2), .val (.int 0), .val (.int 2), .val (.int 0), .val (.int c0)] [])) _
    refine XS.iinc X110.here hx rfl (hB d12_32) rfl (l' := #[.val (.ref a1), .val (.int 1), .val (.ref a2), .val (.int 0), .val (.int 2), .val (.int 0), .val (.int c0)]) rfl ?_
    refine XS.iinc X110.here hx rfl (hB d12_35) rfl (l' := #[.val (.ref a1), .val (.int 1), .val (.ref a2), .val (.int 1), .val (.int 2), .val (.int 0), .val (.int c0)]) rfl ?_
    refine XS.iinc X110.here hx rfl (hB d12_38) rfl (l' := #[.val (.ref a1), .val (.int 1), .val (.ref a2), .val (.int 1), .val (.int 2), .val (.int 1), .val (.int c0)]) rfl ?_
    refine XS.goto X110.here hx rfl (pc0 := 41) (pc' := 3) rfl (hB d12_41) (by decide) (by decide) ?_
    refine XS.iload X110.here hx rfl (hB d12_3) rfl ?_
    refine XS.iload X110.here hx rfl (hB d12_5) rfl ?_
    refine XS.icmpNo X110.here hx rfl (hB d12_7) rfl (tlt (by decide : (1 : Int32) < (2 : Int32))).2.1 ?_
    refine XS.aloadN X110.here hx rfl (hB d12_10) rfl rfl ?_
    refine XS.iloadN X110.here hx rfl (hB d12_11) rfl ?_
    refine X110.caload hx (j := (1 : Int32)) (v := (.int c1)) (own_cell e110 Arq113.1) (State.isArrayOf_alike hZ.alike Arq113.2.1) Arq113.2.2 hinq113 hatq113 (g := (mkF m 12 #[.val (.ref a1), .val (.int 1), .val (.ref a2), .val (.int 1), .val (.int 2), .val (.int 1), .val (.int c0)] [.int 1, .ref a1])) rfl rfl (hB d12_12) _ ?_
    refine XS.istore X110.here hx rfl (hB d12_13) rfl (l' := #[.val (.ref a1), .val (.int 1), .val (.ref a2), .val (.int 1), .val (.int 2), .val (.int 1), .val (.int c1)]) rfl ?_
    refine XS.iload X110.here hx rfl (hB d12_15) rfl ?_
    refine XS.sipush X110.here hx rfl (hB d12_17) ?_
    refine XS.icmpYes X110.here hx rfl (pc0 := 20) (pc' := 26) rfl (hB d12_20) rfl (flt (hl1 : ¬ ((255 : Int32) < c1))).2.2.2 (by decide) (by decide) ?_
    refine XS.aloadN X110.here hx rfl (hB d12_26) rfl rfl ?_
    refine XS.iloadN X110.here hx rfl (hB d12_27) rfl ?_
    show Steps _ _ _ (T110.setTop (mkF m 28 #[.val (.ref a1), .val (.int 1), .val (.ref a2), .val (.int 1), .val (.int 2), .val (.int 1), .val (.int c1)] [.int 1, .ref a2])) _
    refine XS.iload X110.here hx rfl (hB d12_28) rfl ?_
    refine XS.i2b X110.here hx rfl (hB d12_30) rfl ?_
    refine st115 _ ?_
    show Steps _ _ _ (T115.setTop (mkF m 32 #[.val (.ref a1), .val (.int 1), .val (.ref a2), .val (.int 1), .val (.int 2), .val (.int 1), .val (.int c1)] [])) _
    refine XS.iinc X115.here hx rfl (hB d12_32) rfl (l' := #[.val (.ref a1), .val (.int 2), .val (.ref a2), .val (.int 1), .val (.int 2), .val (.int 1), .val (.int c1)]) rfl ?_
    refine XS.iinc X115.here hx rfl (hB d12_35) rfl (l' := #[.val (.ref a1), .val (.int 2), .val (.ref a2), .val (.int 2), .val (.int 2), .val (.int 1), .val (.int c1)]) rfl ?_
    refine XS.iinc X115.here hx rfl (hB d12_38) rfl (l' := #[.val (.ref a1), .val (.int 2), .val (.ref a2), .val (.int 2), .val (.int 2), .val (.int 2), .val (.int c1)]) rfl ?_
    refine XS.goto X115.here hx rfl (pc0 := 41) (pc' := 3) rfl (hB d12_41) (by decide) (by decide) ?_
    refine XS.iload X115.here hx rfl (hB d12_3) rfl ?_
    refine XS.iload X115.here hx rfl (hB d12_5) rfl ?_
    refine XS.icmpYes X115.here hx rfl (pc0 := 7) (pc' := 44) rfl (hB d12_7) rfl (flt (by decide : ¬ ((2 : Int32) < (2 : Int32)))).2.1 (by decide) (by decide) ?_
    refine XS.iload X115.here hx rfl (hB d12_44) rfl ?_
    exact retOut X115 hx Bd.returns rfl (Or.inl ⟨rfl, Or.inl rfl, _, rfl⟩) (hB d12_46) hr
  · show Qc5L2 Z G1 fm a1 a2 ka kb c0 c1 h0 n0 _ T115.heap _
    rw [e115]
    exact ⟨rfl, N115, K0_116, V115⟩
def Qc5W2 (Z : State) (G1 : Int32) (fm : Value) (a1 : Addr) (a2 : Addr) (ka : ClassId) (kb : ClassId) (c0 : Int32) (c1 : Int32) (h0 : Heap) (n0 : Nat) (v : Option Value) (h : Heap) (L : List Loc) : Prop := ∃ j : Int32, v = some (.int j) ∧ Fr n0 L ∧ Keep h0 h [a2] ∧ own_first j [c0, c1]
theorem rmc5W2_0 (l : Launch) (Z : State) (a0 : Array Value) (G1 : Int32) (fm : Value) (hG : Glob Z a0 G1 fm) (ws : List Jvm.Cond) (a1 : Addr) (a2 : Addr) (ka : ClassId) (kb : ClassId) (c0 : Int32) (c1 : Int32) (h0 : Heap) (n0 : Nat) (Z0 : n0 ≤ h0.size) (X00 : Old Z n0 h0) (V_a1 : Arv Z h0 a1 ka .char (2 : Int32) [.int c0, .int c1] (.int 0)) (V_a2 : Arv Z h0 a2 kb .byte (2 : Int32) [.int 0, .int 0] (.int 0)) (g_a2 : n0 ≤ a2) (ne_a1_a2 : a1 ≠ a2) (hwid : ¬ (¬ ((255 : Int32) < c0) ∧ ¬ ((255 : Int32) < c1))) (hwd : (255 : Int32) < c0) :
    Met l Z h0 y12 jdk_52_method_21_code 7 (some .int) ws (Room.mk 0 0 0 0) #[.ref a1, .int 0, .ref a2, .int 0, .int 2] (Qc5W2 Z G1 fm a1 a2 ka kb c0 c1 h0 n0) := by
  obtain ⟨hw, O_cs, P_cs, O_as, O_hi, O_lo, O_fm, R_fm⟩ := id hG
  have W := @own_W _ _ hw
  refine own_go "java/lang/StringUTF16" rfl (plainFor_of_name pn_java_lang_StringUTF16) ?_
  intro p e s m below meth c s₁ Bd hx hby hml hown hnm X0 e0 hZ
  have hB := @hb _ _ hby
  have N0 := Fr.nil n0
  obtain ⟨clq117, Arq117, qaq117, Sq117, Nq117, Hq117, Gq117⟩ := id V_a1
  have hinq117 := inb_of (j := (0 : Int32)) Sq117 ⟨by decide, by decide⟩
  have hatq117 := Has.at (v := (.int c0)) Hq117 hinq117 rfl
  obtain ⟨fs, hr, hrun, hended, hW, hsame⟩ := X0.leave (v := some (.int 0)) (fun h => by rw [Bd.returns] at h; cases h)
  refine ⟨_, _, castTop (ef_jdk_52_method_21_code_RIRII m a1 (0 : Int32) a2 (0 : Int32) (2 : Int32)) ?_, hrun, hended, _, _, rfl, ?_, ⟨_, rfl⟩, hW, hsame.mono (own_ble rfl) (own_ble rfl)⟩
  · show Steps _ _ _ (s₁.setTop (mkF m 0 #[.val (.ref a1), .val (.int 0), .val (.ref a2), .val (.int 0), .val (.int 2), .unset, .unset] [])) _
    refine XS.iconst X0.here hx rfl (hB d12_0) ?_
    refine XS.istore X0.here hx rfl (hB d12_1) rfl (l' := #[.val (.ref a1), .val (.int 0), .val (.ref a2), .val (.int 0), .val (.int 2), .val (.int 0), .unset]) rfl ?_
    refine XS.iload X0.here hx rfl (hB d12_3) rfl ?_
    refine XS.iload X0.here hx rfl (hB d12_5) rfl ?_
    refine XS.icmpNo X0.here hx rfl (hB d12_7) rfl (tlt (by decide : (0 : Int32) < (2 : Int32))).2.1 ?_
    refine XS.aloadN X0.here hx rfl (hB d12_10) rfl rfl ?_
    refine XS.iloadN X0.here hx rfl (hB d12_11) rfl ?_
    refine X0.caload hx (j := (0 : Int32)) (v := (.int c0)) (own_cell e0 Arq117.1) (State.isArrayOf_alike hZ.alike Arq117.2.1) Arq117.2.2 hinq117 hatq117 (g := (mkF m 12 #[.val (.ref a1), .val (.int 0), .val (.ref a2), .val (.int 0), .val (.int 2), .val (.int 0), .unset] [.int 0, .ref a1])) rfl rfl (hB d12_12) _ ?_
    refine XS.istore X0.here hx rfl (hB d12_13) rfl (l' := #[.val (.ref a1), .val (.int 0), .val (.ref a2), .val (.int 0), .val (.int 2), .val (.int 0), .val (.int c0)]) rfl ?_
    refine XS.iload X0.here hx rfl (hB d12_15) rfl ?_
    refine XS.sipush X0.here hx rfl (hB d12_17) ?_
    refine XS.icmpNo X0.here hx rfl (hB d12_20) rfl (tlt (hwd : (255 : Int32) < c0)).2.2.2 ?_
    refine XS.iload X0.here hx rfl (hB d12_23) rfl ?_
    exact retOut X0 hx Bd.returns rfl (Or.inl ⟨rfl, Or.inl rfl, _, rfl⟩) (hB d12_25) hr
  · show Qc5W2 Z G1 fm a1 a2 ka kb c0 c1 h0 n0 _ s₁.heap _
    rw [e0]
    exact ⟨(0 : Int32), rfl, N0, (Keep.refl h0 [a2]), ⟨0, c0, rfl, rfl, hwd⟩⟩
theorem rmc5W2_1 (l : Launch) (Z : State) (a0 : Array Value) (G1 : Int32) (fm : Value) (hG : Glob Z a0 G1 fm) (ws : List Jvm.Cond) (a1 : Addr) (a2 : Addr) (ka : ClassId) (kb : ClassId) (c0 : Int32) (c1 : Int32) (h0 : Heap) (n0 : Nat) (Z0 : n0 ≤ h0.size) (X00 : Old Z n0 h0) (V_a1 : Arv Z h0 a1 ka .char (2 : Int32) [.int c0, .int c1] (.int 0)) (V_a2 : Arv Z h0 a2 kb .byte (2 : Int32) [.int 0, .int 0] (.int 0)) (g_a2 : n0 ≤ a2) (ne_a1_a2 : a1 ≠ a2) (hwid : ¬ (¬ ((255 : Int32) < c0) ∧ ¬ ((255 : Int32) < c1))) (hl0 : ¬ ((255 : Int32) < c0)) (hwd : (255 : Int32) < c1) :
    Met l Z h0 y12 jdk_52_method_21_code 7 (some .int) ws (Room.mk 0 0 0 0) #[.ref a1, .int 0, .ref a2, .int 0, .int 2] (Qc5W2 Z G1 fm a1 a2 ka kb c0 c1 h0 n0) := by
  obtain ⟨hw, O_cs, P_cs, O_as, O_hi, O_lo, O_fm, R_fm⟩ := id hG
  have W := @own_W _ _ hw
  refine own_go "java/lang/StringUTF16" rfl (plainFor_of_name pn_java_lang_StringUTF16) ?_
  intro p e s m below meth c s₁ Bd hx hby hml hown hnm X0 e0 hZ
  have hB := @hb _ _ hby
  have N0 := Fr.nil n0
  obtain ⟨clq118, Arq118, qaq118, Sq118, Nq118, Hq118, Gq118⟩ := id V_a1
  have hinq118 := inb_of (j := (0 : Int32)) Sq118 ⟨by decide, by decide⟩
  have hatq118 := Has.at (v := (.int c0)) Hq118 hinq118 rfl
  obtain ⟨clq119, Arq119, qaq119, Sq119, Nq119, Hq119, Gq119⟩ := id V_a2
  have hinq119 := inb_of (j := (0 : Int32)) Sq119 ⟨by decide, by decide⟩
  obtain ⟨T120, h120, X120, e120, W120, st120⟩ := stB X0 hx hZ e0 Arq119 (j := (0 : Int32)) hinq119 (g := (mkF m 31 #[.val (.ref a1), .val (.int 0), .val (.ref a2), .val (.int 0), .val (.int 2), .val (.int 0), .val (.int c0)] [(.int (c0.toInt8.toInt32)), .int 0, .ref a2])) rfl rfl (hB d12_31)
  have V120 : Arv Z h120 a2 kb .byte (2 : Int32) [(.int ((c0.toInt8.toInt32).toInt8.toInt32)), .int 0] (.int 0) := Arv.set Arq119 qaq119 Sq119 Nq119 Hq119 Gq119 (fits_nar_byte _) W120 0 rfl (own_ble rfl)
  have Z121 : n0 ≤ h120.size := Nat.le_trans Z0 (Keep.of_wr W120).1
  have K0_121 : Keep h0 h120 [a2] := (Keep.refl h0 [a2]).wr W120 (Or.inl (List.mem_of_getElem? (i := 0) rfl))
  have O121 : Old Z n0 h120 := X00.wr W120 g_a2
  have N120 := Fr.snoc X120 N0 g_a2
  have f122 := (V_a1.other W120 ne_a1_a2)
  obtain ⟨clq123, Arq123, qaq123, Sq123, Nq123, Hq123, Gq123⟩ := id f122
  have hinq123 := inb_of (j := (1 : Int32)) Sq123 ⟨by decide, by decide⟩
  have hatq123 := Has.at (v := (.int c1)) Hq123 hinq123 rfl
  obtain ⟨fs, hr, hrun, hended, hW, hsame⟩ := X120.leave (v := some (.int 1)) (fun h => by rw [Bd.returns] at h; cases h)
  refine ⟨_, _, castTop (ef_jdk_52_method_21_code_RIRII m a1 (0 : Int32) a2 (0 : Int32) (2 : Int32)) ?_, hrun, hended, _, _, rfl, ?_, ⟨_, rfl⟩, hW, hsame.mono (own_ble rfl) (own_ble rfl)⟩
  · show Steps _ _ _ (s₁.setTop (mkF m 0 #[.val (.ref a1), .val (.int 0), .val (.ref a2), .val (.int 0), .val (.int 2), .unset, .unset] [])) _
    refine XS.iconst X0.here hx rfl (hB d12_0) ?_
    refine XS.istore X0.here hx rfl (hB d12_1) rfl (l' := #[.val (.ref a1), .val (.int 0), .val (.ref a2), .val (.int 0), .val (.int 2), .val (.int 0), .unset]) rfl ?_
    refine XS.iload X0.here hx rfl (hB d12_3) rfl ?_
    refine XS.iload X0.here hx rfl (hB d12_5) rfl ?_
    refine XS.icmpNo X0.here hx rfl (hB d12_7) rfl (tlt (by decide : (0 : Int32) < (2 : Int32))).2.1 ?_
    refine XS.aloadN X0.here hx rfl (hB d12_10) rfl rfl ?_
    refine XS.iloadN X0.here hx rfl (hB d12_11) rfl ?_
    refine X0.caload hx (j := (0 : Int32)) (v := (.int c0)) (own_cell e0 Arq118.1) (State.isArrayOf_alike hZ.alike Arq118.2.1) Arq118.2.2 hinq118 hatq118 (g := (mkF m 12 #[.val (.ref a1), .val (.int 0), .val (.ref a2), .val (.int 0), .val (.int 2), .val (.int 0), .unset] [.int 0, .ref a1])) rfl rfl (hB d12_12) _ ?_
    refine XS.istore X0.here hx rfl (hB d12_13) rfl (l' := #[.val (.ref a1), .val (.int 0), .val (.ref a2), .val (.int 0), .val (.int 2), .val (.int 0), .val (.int c0)]) rfl ?_
    refine XS.iload X0.here hx rfl (hB d12_15) rfl ?_
    refine XS.sipush X0.here hx rfl (hB d12_17) ?_
    refine XS.icmpYes X0.here hx rfl (pc0 := 20) (pc' := 26) rfl (hB d12_20) rfl (flt (hl0 : ¬ ((255 : Int32) < c0))).2.2.2 (by decide) (by decide) ?_
    refine XS.aloadN X0.here hx rfl (hB d12_26) rfl rfl ?_
    refine XS.iloadN X0.here hx rfl (hB d12_27) rfl ?_
    refine XS.iload X0.here hx rfl (hB d12_28) rfl ?_
    refine XS.i2b X0.here hx rfl (hB d12_30) rfl ?_
    show Steps _ _ _ (s₁.setTop (mkF m 31 #[.val (.ref a1), .val (.int 0), .val (.ref a2), .val (.int 0), .val (.int 2), .val (.int 0), .val (.int c0)] [(.int (c0.toInt8.toInt32)), .int 0, .ref a2])) _
    refine st120 _ ?_
    show Steps _ _ _ (T120.setTop (mkF m 32 #[.val (.ref a1), .val (.int 0), .val (.ref a2), .val (.int 0), .val (.int 2), .val (.int 0), .val (.int c0)] [])) _
    refine XS.iinc X120.here hx rfl (hB d12_32) rfl (l' := #[.val (.ref a1), .val (.int 1), .val (.ref a2), .val (.int 0), .val (.int 2), .val (.int 0), .val (.int c0)]) rfl ?_
    refine XS.iinc X120.here hx rfl (hB d12_35) rfl (l' := #[.val (.ref a1), .val (.int 1), .val (.ref a2), .val (.int 1), .val (.int 2), .val (.int 0), .val (.int c0)]) rfl ?_
    refine XS.iinc X120.here hx rfl (hB d12_38) rfl (l' := #[.val (.ref a1), .val (.int 1), .val (.ref a2), .val (.int 1), .val (.int 2), .val (.int 1), .val (.int c0)]) rfl ?_
    refine XS.goto X120.here hx rfl (pc0 := 41) (pc' := 3) rfl (hB d12_41) (by decide) (by decide) ?_
    refine XS.iload X120.here hx rfl (hB d12_3) rfl ?_
    refine XS.iload X120.here hx rfl (hB d12_5) rfl ?_
    refine XS.icmpNo X120.here hx rfl (hB d12_7) rfl (tlt (by decide : (1 : Int32) < (2 : Int32))).2.1 ?_
    refine XS.aloadN X120.here hx rfl (hB d12_10) rfl rfl ?_
    refine XS.iloadN X120.here hx rfl (hB d12_11) rfl ?_
    refine X120.caload hx (j := (1 : Int32)) (v := (.int c1)) (own_cell e120 Arq123.1) (State.isArrayOf_alike hZ.alike Arq123.2.1) Arq123.2.2 hinq123 hatq123 (g := (mkF m 12 #[.val (.ref a1), .val (.int 1), .val (.ref a2), .val (.int 1), .val (.int 2), .val (.int 1), .val (.int c0)] [.int 1, .ref a1])) rfl rfl (hB d12_12) _ ?_
    refine XS.istore X120.here hx rfl (hB d12_13) rfl (l' := #[.val (.ref a1), .val (.int 1), .val (.ref a2), .val (.int 1), .val (.int 2), .val (.int 1), .val (.int c1)]) rfl ?_
    refine XS.iload X120.here hx rfl (hB d12_15) rfl ?_
    refine XS.sipush X120.here hx rfl (hB d12_17) ?_
    refine XS.icmpNo X120.here hx rfl (hB d12_20) rfl (tlt (hwd : (255 : Int32) < c1)).2.2.2 ?_
    refine XS.iload X120.here hx rfl (hB d12_23) rfl ?_
    exact retOut X120 hx Bd.returns rfl (Or.inl ⟨rfl, Or.inl rfl, _, rfl⟩) (hB d12_25) hr
  · show Qc5W2 Z G1 fm a1 a2 ka kb c0 c1 h0 n0 _ T120.heap _
    rw [e120]
    exact ⟨(1 : Int32), rfl, N120, K0_121, ⟨1, c1, rfl, rfl, hwd⟩⟩
theorem rmc5W2 (l : Launch) (Z : State) (a0 : Array Value) (G1 : Int32) (fm : Value) (hG : Glob Z a0 G1 fm) (ws : List Jvm.Cond) (a1 : Addr) (a2 : Addr) (ka : ClassId) (kb : ClassId) (c0 : Int32) (c1 : Int32) (h0 : Heap) (n0 : Nat) (Z0 : n0 ≤ h0.size) (X00 : Old Z n0 h0) (V_a1 : Arv Z h0 a1 ka .char (2 : Int32) [.int c0, .int c1] (.int 0)) (V_a2 : Arv Z h0 a2 kb .byte (2 : Int32) [.int 0, .int 0] (.int 0)) (g_a2 : n0 ≤ a2) (ne_a1_a2 : a1 ≠ a2) (hwid : ¬ (¬ ((255 : Int32) < c0) ∧ ¬ ((255 : Int32) < c1))) :
    Met l Z h0 y12 jdk_52_method_21_code 7 (some .int) ws (Room.mk 0 0 0 0) #[.ref a1, .int 0, .ref a2, .int 0, .int 2] (Qc5W2 Z G1 fm a1 a2 ka kb c0 c1 h0 n0) := by
  by_cases q0 : (255 : Int32) < c0
  · exact rmc5W2_0 l Z a0 G1 fm hG ws a1 a2 ka kb c0 c1 h0 n0 Z0 X00 V_a1 V_a2 g_a2 ne_a1_a2 hwid q0
  by_cases q1 : (255 : Int32) < c1
  · exact rmc5W2_1 l Z a0 G1 fm hG ws a1 a2 ka kb c0 c1 h0 n0 Z0 X00 V_a1 V_a2 g_a2 ne_a1_a2 hwid q0 q1
  exact absurd ⟨q0, q1⟩ hwid
def Qnbl2 (Z : State) (G1 : Int32) (fm : Value) (h0 : Heap) (n0 : Nat) (v : Option Value) (h : Heap) (L : List Loc) : Prop := v = some (.int 4) ∧ Fr n0 L ∧ h = h0
theorem rmnbl2 (l : Launch) (Z : State) (a0 : Array Value) (G1 : Int32) (fm : Value) (hG : Glob Z a0 G1 fm) (ws : List Jvm.Cond) (h0 : Heap) (n0 : Nat) (Z0 : n0 ≤ h0.size) (X00 : Old Z n0 h0) :
    Met l Z h0 y13 jdk_52_method_3_code 1 (some .int) ws (Room.mk 0 0 0 0) #[.int 2] (Qnbl2 Z G1 fm h0 n0) := by
  obtain ⟨hw, O_cs, P_cs, O_as, O_hi, O_lo, O_fm, R_fm⟩ := id hG
  have W := @own_W _ _ hw
  refine own_go "java/lang/StringUTF16" rfl (plainFor_of_name pn_java_lang_StringUTF16) ?_
  intro p e s m below meth c s₁ Bd hx hby hml hown hnm X0 e0 hZ
  have hB := @hb _ _ hby
  have N0 := Fr.nil n0
  obtain ⟨fs, hr, hrun, hended, hW, hsame⟩ := X0.leave (v := some (.int 4)) (fun h => by rw [Bd.returns] at h; cases h)
  refine ⟨_, _, castTop (ef_jdk_52_method_3_code_I m (2 : Int32)) ?_, hrun, hended, _, _, rfl, ?_, ⟨_, rfl⟩, hW, hsame.mono (own_ble rfl) (own_ble rfl)⟩
  · show Steps _ _ _ (s₁.setTop (mkF m 0 #[.val (.int 2)] [])) _
    refine XS.iloadN X0.here hx rfl (hB d13_0) rfl ?_
    refine XS.ifYes X0.here hx rfl (pc0 := 1) (pc' := 12) rfl (hB d13_1) rfl ((if0 _ _).trans (flt (by decide : ¬ ((2 : Int32) < (0 : Int32)))).2.1) (by decide) (by decide) ?_
    refine XS.iloadN X0.here hx rfl (hB d13_12) rfl ?_
    refine X0.ldcInt hx hown (mvT hZ (W 93 rfl)) (g := (mkF m 13 #[.val (.int 2)] [.int 2])) rfl (hB d13_13) _ ?_
    refine XS.icmpYes X0.here hx rfl (pc0 := 15) (pc' := 55) rfl (hB d13_15) rfl (tlt (by decide : (2 : Int32) < (1073741823 : Int32))).1 (by decide) (by decide) ?_
    refine XS.iloadN X0.here hx rfl (hB d13_55) rfl ?_
    refine XS.iconst X0.here hx rfl (hB d13_56) ?_
    refine XS.ishl X0.here hx rfl (hB d13_57) rfl ?_
    exact retOut X0 hx Bd.returns rfl (Or.inl ⟨rfl, Or.inl rfl, _, rfl⟩) (hB d13_58) hr
  · show Qnbl2 Z G1 fm h0 n0 _ s₁.heap _
    rw [e0]
    exact ⟨rfl, N0, rfl⟩
def Qnbf2 (Z : State) (G1 : Int32) (fm : Value) (h0 : Heap) (n0 : Nat) (v : Option Value) (h : Heap) (L : List Loc) : Prop := ∃ b : Addr, ∃ kb : ClassId, v = some (.ref b) ∧ Fr n0 L ∧ Keep h0 h [] ∧ h0.size ≤ b ∧ Arv Z h b kb .byte (4 : Int32) [.int 0, .int 0, .int 0, .int 0] (.int 0)
theorem rmnbf2 (l : Launch) (Z : State) (a0 : Array Value) (G1 : Int32) (fm : Value) (hG : Glob Z a0 G1 fm) (ws : List Jvm.Cond) (h0 : Heap) (n0 : Nat) (Z0 : n0 ≤ h0.size) (X00 : Old Z n0 h0) :
    Met l Z h0 y14 jdk_52_method_2_code 1 (some (.array .byte)) ws (Room.mk 1 1 4 12) #[.int 2] (Qnbf2 Z G1 fm h0 n0) := by
  obtain ⟨hw, O_cs, P_cs, O_as, O_hi, O_lo, O_fm, R_fm⟩ := id hG
  have W := @own_W _ _ hw
  refine own_go "java/lang/StringUTF16" rfl (plainFor_of_name pn_java_lang_StringUTF16) ?_
  intro p e s m below meth c s₁ Bd hx hby hml hown hnm X0 e0 hZ
  have hB := @hb _ _ hby
  have N0 := Fr.nil n0
  -- pc 1: java/lang/StringUTF16.newBytesLength
  obtain ⟨_, _, ⟨T124, L124, k124, n124⟩, -, X124, ⟨Lc124, hQ124, l124, y124, z124⟩, st124⟩ := Jvm.LawKit.callS X0 hx (y := y13) hown (mvT hZ (W 90 rfl)) (mvT hZ (W 91 rfl)) (mvT hZ (W 40 rfl)) (mvT hZ (W 92 rfl)) (by decide) (backOf (W := 0) (rmnbl2 l Z a0 G1 fm hG [] h0 n0 Z0 X00) hZ (W 92 rfl) (W 40 rfl) (by decide) (by decide)) (g := (mkF m 1 #[.val (.int 2)] [.int 2])) rfl (by rw [hml]; rfl) (argsL := [.int 2]) (rest := []) (lenOf pd__I_I rfl) rfl (by show 2 * 0 + _ ≤ _; exact Nat.le_of_eq rfl) (hB d14_1) (fun _ _ => ⟨rfl, e0, (by decide : 0 + 0 ≤ _), (by decide : 0 + 0 ≤ _)⟩)
  dsimp only [Pt.U, Pt.locs, Pt.cells, Pt.slots] at X124 l124 y124 z124 st124 hQ124
  subst l124 y124 z124
  obtain ⟨rfl, N124q, eq124⟩ := hQ124
  have N124 := Fr.app N0 N124q
  obtain ⟨T125, h125, k125, X125, e125, E125, A125, Q125, st125⟩ := newPE X124 hx hZ (W 16 rfl) eq124 (g := (mkF m 4 #[.val (.int 2)] [.int 4])) rfl (hB d14_4) rfl (by decide) (cap := 4) (by decide) (by decide) (by decide) (by decide) (ad := "[B") rfl
  obtain ⟨b125, g125⟩ : ∃ z, z = h0.size := ⟨_, rfl⟩
  rw [← g125] at A125 Q125 st125
  have Z126 : n0 ≤ h125.size := Nat.le_trans Z0 E125.1
  have K0_126 : Keep h0 h125 [] := (Keep.refl h0 []).ext E125
  have O126 : Old Z n0 h125 := X00.ext E125
  have lo_b125 : h0.size ≤ b125 := Nat.le_of_eq g125.symm
  have g_b125 : n0 ≤ b125 := Nat.le_trans Z0 lo_b125
  have l0_b125 : h0.size ≤ b125 := Nat.le_trans (Keep.refl h0 []).1 lo_b125
  have V_b125 : Arv Z h125 b125 k125 .byte (4 : Int32) [.int 0, .int 0, .int 0, .int 0] (.int 0) := (Arv.new A125 (by decide)).pad (pad_rep [] (.int 0) 4)
  obtain ⟨fs, hr, hrun, hended, hW, hsame⟩ := X125.leave (v := some (.ref b125)) (fun h => by rw [Bd.returns] at h; cases h)
  refine ⟨_, _, castTop (ef_jdk_52_method_2_code_I m (2 : Int32)) ?_, hrun, hended, _, _, rfl, ?_, ⟨_, rfl⟩, hW, hsame.mono (own_ble rfl) (own_ble rfl)⟩
  · show Steps _ _ _ (s₁.setTop (mkF m 0 #[.val (.int 2)] [])) _
    refine XS.iloadN X0.here hx rfl (hB d14_0) rfl ?_
    refine st124 _ ?_
    show Steps _ _ _ (T124.setTop (mkF m 4 #[.val (.int 2)] [.int 4])) _
    refine st125 _ ?_
    show Steps _ _ _ (T125.setTop (mkF m 6 #[.val (.int 2)] [.ref b125])) _
    exact retOut X125 hx Bd.returns rfl (Or.inr (Or.inr (Or.inr (Or.inr ⟨rfl, rfl, rfl⟩)))) (hB d14_6) hr
  · show Qnbf2 Z G1 fm h0 n0 _ T125.heap _
    rw [e125]
    exact ⟨b125, k125, rfl, N124, K0_126, l0_b125, V_b125⟩
def Qtob2 (Z : State) (G1 : Int32) (fm : Value) (a1 : Addr) (ka : ClassId) (c0 : Int32) (c1 : Int32) (h0 : Heap) (n0 : Nat) (v : Option Value) (h : Heap) (L : List Loc) : Prop := ∃ b : Addr, ∃ kb : ClassId, v = some (.ref b) ∧ Fr n0 L ∧ Keep h0 h [] ∧ h0.size ≤ b ∧ Arv Z h b kb .byte (4 : Int32) [(.int (((c0 >>> ((0 : Int32) &&& 31)).toInt8.toInt32).toInt8.toInt32)), (.int (((c0 >>> ((8 : Int32) &&& 31)).toInt8.toInt32).toInt8.toInt32)), (.int (((c1 >>> ((0 : Int32) &&& 31)).toInt8.toInt32).toInt8.toInt32)), (.int (((c1 >>> ((8 : Int32) &&& 31)).toInt8.toInt32).toInt8.toInt32))] (.int 0)
theorem rmtob2 (l : Launch) (Z : State) (a0 : Array Value) (G1 : Int32) (fm : Value) (hG : Glob Z a0 G1 fm) (ws : List Jvm.Cond) (a1 : Addr) (ka : ClassId) (c0 : Int32) (c1 : Int32) (h0 : Heap) (n0 : Nat) (Z0 : n0 ≤ h0.size) (X00 : Old Z n0 h0) (V_a1 : Arv Z h0 a1 ka .char (2 : Int32) [.int c0, .int c1] (.int 0)) :
    Met l Z h0 y15 jdk_52_method_14_code 5 (some (.array .byte)) ws (Room.mk 2 1 4 24) #[.ref a1, .int 0, .int 2] (Qtob2 Z G1 fm a1 ka c0 c1 h0 n0) := by
  obtain ⟨hw, O_cs, P_cs, O_as, O_hi, O_lo, O_fm, R_fm⟩ := id hG
  have W := @own_W _ _ hw
  refine own_go "java/lang/StringUTF16" rfl (plainFor_of_name pn_java_lang_StringUTF16) ?_
  intro p e s m below meth c s₁ Bd hx hby hml hown hnm X0 e0 hZ
  have hB := @hb _ _ hby
  have N0 := Fr.nil n0
  -- pc 1: java/lang/StringUTF16.newBytesFor
  obtain ⟨_, _, ⟨T127, L127, k127, n127⟩, -, X127, ⟨Lc127, hQ127, l127, y127, z127⟩, st127⟩ := Jvm.LawKit.callS X0 hx (y := y14) hown (mvT hZ (W 87 rfl)) (mvT hZ (W 88 rfl)) (mvT hZ (W 40 rfl)) (mvT hZ (W 89 rfl)) (by decide) (backOf (W := 0) (rmnbf2 l Z a0 G1 fm hG [] h0 n0 Z0 X00) hZ (W 89 rfl) (W 40 rfl) (by decide) (by decide)) (g := (mkF m 1 #[.val (.ref a1), .val (.int 0), .val (.int 2), .unset, .unset] [.int 2])) rfl (by rw [hml]; rfl) (argsL := [.int 2]) (rest := []) (lenOf pd__I__B rfl) rfl (by show 2 * 0 + _ ≤ _; exact Nat.le_of_eq rfl) (hB d15_1) (fun _ _ => ⟨rfl, e0, (by decide : 0 + 1 ≤ _), (by decide : 0 + 4 ≤ _)⟩)
  dsimp only [Pt.U, Pt.locs, Pt.cells, Pt.slots] at X127 l127 y127 z127 st127 hQ127
  subst l127 y127 z127
  obtain ⟨b_127, kb_127, rfl, N127q, K127, f127_0, f127_1⟩ := hQ127
  have N127 := Fr.app N0 N127q
  have Z128 : n0 ≤ T127.heap.size := Nat.le_trans Z0 K127.1
  have K0_128 : Keep h0 T127.heap [] := (Keep.refl h0 []).trans K127 all0
  have O128 : Old Z n0 T127.heap := X00.keep K127 all0
  have lo_b_127 : h0.size ≤ b_127 := f127_0
  have g_b_127 : n0 ≤ b_127 := Nat.le_trans Z0 lo_b_127
  have l0_b_127 : h0.size ≤ b_127 := Nat.le_trans (Keep.refl h0 []).1 lo_b_127
  have f129 := (V_a1.keep K127 nin0)
  obtain ⟨clq130, Arq130, qaq130, Sq130, Nq130, Hq130, Gq130⟩ := id f129
  have hinq130 := inb_of (j := (0 : Int32)) Sq130 ⟨by decide, by decide⟩
  have hatq130 := Has.at (v := (.int c0)) Hq130 hinq130 rfl
  -- pc 20: java/lang/StringUTF16.putChar
  obtain ⟨_, _, ⟨T131, L131, k131, n131⟩, -, X131, ⟨Lc131, hQ131, l131, y131, z131⟩, st131⟩ := Jvm.LawKit.callS X127 hx (y := y1) hown (mvT hZ (W 94 rfl)) (mvT hZ (W 95 rfl)) (mvT hZ (W 40 rfl)) (mvT hZ (W 96 rfl)) (by decide) (backOf (W := 0) (rmput l Z a0 G1 fm hG [] b_127 kb_127 (4 : Int32) ([.int 0, .int 0, .int 0, .int 0] : List Value) (0 : Int32) 0 c0 T127.heap n0 Z128 O128 f127_1 g_b_127 (by decide) (by decide) (own_ble rfl) (by decide) (by decide) (own_ble rfl)) hZ (W 96 rfl) (W 40 rfl) (by decide) (by decide)) (g := (mkF m 20 #[.val (.ref a1), .val (.int 0), .val (.int 2), .val (.ref b_127), .val (.int 0)] [.int c0, .int 0, .ref b_127])) rfl (by rw [hml]; rfl) (argsL := [.ref b_127, .int 0, .int c0]) (rest := []) (lenOf pd___BII_V rfl) rfl (by show 2 * 0 + _ ≤ _; exact Nat.le_of_eq rfl) (hB d15_20) (fun _ _ => ⟨rfl, rfl, (by decide : 1 + 0 ≤ _), (by decide : 4 + 0 ≤ _)⟩)
  dsimp only [Pt.U, Pt.locs, Pt.cells, Pt.slots] at X131 l131 y131 z131 st131 hQ131
  subst l131 y131 z131
  obtain ⟨rfl, N131q, K131, f131_0⟩ := hQ131
  have N131 := Fr.app N127 N131q
  have Z132 : n0 ≤ T131.heap.size := Nat.le_trans Z128 K131.1
  have K0_132 : Keep h0 T131.heap [] := K0_128.trans K131 (allS (Or.inr l0_b_127) all0)
  have O132 : Old Z n0 T131.heap := O128.keep K131 (allS g_b_127 all0)
  have cv131 : Arv Z T131.heap b_127 kb_127 .byte (4 : Int32) [(.int (((c0 >>> ((0 : Int32) &&& 31)).toInt8.toInt32).toInt8.toInt32)), (.int (((c0 >>> ((8 : Int32) &&& 31)).toInt8.toInt32).toInt8.toInt32)), .int 0, .int 0] (.int 0) := f131_0
  have f133 := (f129.keep K131 (ninS (Nat.ne_of_lt (Nat.lt_of_lt_of_le V_a1.lt lo_b_127)) nin0))
  obtain ⟨clq134, Arq134, qaq134, Sq134, Nq134, Hq134, Gq134⟩ := id f133
  have hinq134 := inb_of (j := (1 : Int32)) Sq134 ⟨by decide, by decide⟩
  have hatq134 := Has.at (v := (.int c1)) Hq134 hinq134 rfl
  -- pc 20: java/lang/StringUTF16.putChar
  obtain ⟨_, _, ⟨T135, L135, k135, n135⟩, -, X135, ⟨Lc135, hQ135, l135, y135, z135⟩, st135⟩ := Jvm.LawKit.callS X131 hx (y := y1) hown (mvT hZ (W 94 rfl)) (mvT hZ (W 95 rfl)) (mvT hZ (W 40 rfl)) (mvT hZ (W 96 rfl)) (by decide) (backOf (W := 0) (rmput l Z a0 G1 fm hG [] b_127 kb_127 (4 : Int32) ([(.int (((c0 >>> ((0 : Int32) &&& 31)).toInt8.toInt32).toInt8.toInt32)), (.int (((c0 >>> ((8 : Int32) &&& 31)).toInt8.toInt32).toInt8.toInt32)), .int 0, .int 0] : List Value) (1 : Int32) 2 c1 T131.heap n0 Z132 O132 cv131 g_b_127 (by decide) (by decide) (own_ble rfl) (by decide) (by decide) (own_ble rfl)) hZ (W 96 rfl) (W 40 rfl) (by decide) (by decide)) (g := (mkF m 20 #[.val (.ref a1), .val (.int 1), .val (.int 2), .val (.ref b_127), .val (.int 1)] [.int c1, .int 1, .ref b_127])) rfl (by rw [hml]; rfl) (argsL := [.ref b_127, .int 1, .int c1]) (rest := []) (lenOf pd___BII_V rfl) rfl (by show 2 * 0 + _ ≤ _; exact Nat.le_of_eq rfl) (hB d15_20) (fun _ _ => ⟨rfl, rfl, (by decide : 1 + 0 ≤ _), (by decide : 4 + 0 ≤ _)⟩)
  dsimp only [Pt.U, Pt.locs, Pt.cells, Pt.slots] at X135 l135 y135 z135 st135 hQ135
  subst l135 y135 z135
  obtain ⟨rfl, N135q, K135, f135_0⟩ := hQ135
  have N135 := Fr.app N131 N135q
  have Z136 : n0 ≤ T135.heap.size := Nat.le_trans Z132 K135.1
  have K0_136 : Keep h0 T135.heap [] := K0_132.trans K135 (allS (Or.inr l0_b_127) all0)
  have O136 : Old Z n0 T135.heap := O132.keep K135 (allS g_b_127 all0)
  have cv135 : Arv Z T135.heap b_127 kb_127 .byte (4 : Int32) [(.int (((c0 >>> ((0 : Int32) &&& 31)).toInt8.toInt32).toInt8.toInt32)), (.int (((c0 >>> ((8 : Int32) &&& 31)).toInt8.toInt32).toInt8.toInt32)), (.int (((c1 >>> ((0 : Int32) &&& 31)).toInt8.toInt32).toInt8.toInt32)), (.int (((c1 >>> ((8 : Int32) &&& 31)).toInt8.toInt32).toInt8.toInt32))] (.int 0) := f135_0
  obtain ⟨fs, hr, hrun, hended, hW, hsame⟩ := X135.leave (v := some (.ref b_127)) (fun h => by rw [Bd.returns] at h; cases h)
  refine ⟨_, _, castTop (ef_jdk_52_method_14_code_RII m a1 (0 : Int32) (2 : Int32)) ?_, hrun, hended, _, _, rfl, ?_, ⟨_, rfl⟩, hW, hsame.mono (own_ble rfl) (own_ble rfl)⟩
  · show Steps _ _ _ (s₁.setTop (mkF m 0 #[.val (.ref a1), .val (.int 0), .val (.int 2), .unset, .unset] [])) _
    refine XS.iloadN X0.here hx rfl (hB d15_0) rfl ?_
    refine st127 _ ?_
    show Steps _ _ _ (T127.setTop (mkF m 4 #[.val (.ref a1), .val (.int 0), .val (.int 2), .unset, .unset] [.ref b_127])) _
    refine XS.astoreN X127.here hx rfl (hB d15_4) rfl rfl (l' := #[.val (.ref a1), .val (.int 0), .val (.int 2), .val (.ref b_127), .unset]) rfl ?_
    refine XS.iconst X127.here hx rfl (hB d15_5) ?_
    refine XS.istore X127.here hx rfl (hB d15_6) rfl (l' := #[.val (.ref a1), .val (.int 0), .val (.int 2), .val (.ref b_127), .val (.int 0)]) rfl ?_
    refine XS.iload X127.here hx rfl (hB d15_8) rfl ?_
    refine XS.iloadN X127.here hx rfl (hB d15_10) rfl ?_
    refine XS.icmpNo X127.here hx rfl (hB d15_11) rfl (tlt (by decide : (0 : Int32) < (2 : Int32))).2.1 ?_
    refine XS.aloadN X127.here hx rfl (hB d15_14) rfl rfl ?_
    refine XS.iload X127.here hx rfl (hB d15_15) rfl ?_
    refine XS.aloadN X127.here hx rfl (hB d15_17) rfl rfl ?_
    refine XS.iloadN X127.here hx rfl (hB d15_18) rfl ?_
    refine X127.caload hx (j := (0 : Int32)) (v := (.int c0)) (own_cell rfl Arq130.1) (State.isArrayOf_alike hZ.alike Arq130.2.1) Arq130.2.2 hinq130 hatq130 (g := (mkF m 19 #[.val (.ref a1), .val (.int 0), .val (.int 2), .val (.ref b_127), .val (.int 0)] [.int 0, .ref a1, .int 0, .ref b_127])) rfl rfl (hB d15_19) _ ?_
    refine st131 _ ?_
    show Steps _ _ _ (T131.setTop (mkF m 23 #[.val (.ref a1), .val (.int 0), .val (.int 2), .val (.ref b_127), .val (.int 0)] [])) _
    refine XS.iinc X131.here hx rfl (hB d15_23) rfl (l' := #[.val (.ref a1), .val (.int 1), .val (.int 2), .val (.ref b_127), .val (.int 0)]) rfl ?_
    refine XS.iinc X131.here hx rfl (hB d15_26) rfl (l' := #[.val (.ref a1), .val (.int 1), .val (.int 2), .val (.ref b_127), .val (.int 1)]) rfl ?_
    refine XS.goto X131.here hx rfl (pc0 := 29) (pc' := 8) rfl (hB d15_29) (by decide) (by decide) ?_
    refine XS.iload X131.here hx rfl (hB d15_8) rfl ?_
    refine XS.iloadN X131.here hx rfl (hB d15_10) rfl ?_
    refine XS.icmpNo X131.here hx rfl (hB d15_11) rfl (tlt (by decide : (1 : Int32) < (2 : Int32))).2.1 ?_
    refine XS.aloadN X131.here hx rfl (hB d15_14) rfl rfl ?_
    refine XS.iload X131.here hx rfl (hB d15_15) rfl ?_
    refine XS.aloadN X131.here hx rfl (hB d15_17) rfl rfl ?_
    refine XS.iloadN X131.here hx rfl (hB d15_18) rfl ?_
    refine X131.caload hx (j := (1 : Int32)) (v := (.int c1)) (own_cell rfl Arq134.1) (State.isArrayOf_alike hZ.alike Arq134.2.1) Arq134.2.2 hinq134 hatq134 (g := (mkF m 19 #[.val (.ref a1), .val (.int 1), .val (.int 2), .val (.ref b_127), .val (.int 1)] [.int 1, .ref a1, .int 1, .ref b_127])) rfl rfl (hB d15_19) _ ?_
    refine st135 _ ?_
    show Steps _ _ _ (T135.setTop (mkF m 23 #[.val (.ref a1), .val (.int 1), .val (.int 2), .val (.ref b_127), .val (.int 1)] [])) _
    refine XS.iinc X135.here hx rfl (hB d15_23) rfl (l' := #[.val (.ref a1), .val (.int 2), .val (.int 2), .val (.ref b_127), .val (.int 1)]) rfl ?_
    refine XS.iinc X135.here hx rfl (hB d15_26) rfl (l' := #[.val (.ref a1), .val (.int 2), .val (.int 2), .val (.ref b_127), .val (.int 2)]) rfl ?_
    refine XS.goto X135.here hx rfl (pc0 := 29) (pc' := 8) rfl (hB d15_29) (by decide) (by decide) ?_
    refine XS.iload X135.here hx rfl (hB d15_8) rfl ?_
    refine XS.iloadN X135.here hx rfl (hB d15_10) rfl ?_
    refine XS.icmpYes X135.here hx rfl (pc0 := 11) (pc' := 32) rfl (hB d15_11) rfl (flt (by decide : ¬ ((2 : Int32) < (2 : Int32)))).2.1 (by decide) (by decide) ?_
    refine XS.aloadN X135.here hx rfl (hB d15_32) rfl rfl ?_
    exact retOut X135 hx Bd.returns rfl (Or.inr (Or.inr (Or.inr (Or.inr ⟨rfl, rfl, rfl⟩)))) (hB d15_33) hr
  · show Qtob2 Z G1 fm a1 ka c0 c1 h0 n0 _ T135.heap _
    exact ⟨b_127, kb_127, rfl, N135, K0_136, l0_b_127, cv135⟩
def Qc3L2 (Z : State) (G1 : Int32) (fm : Value) (a1 : Addr) (ka : ClassId) (c0 : Int32) (c1 : Int32) (h0 : Heap) (n0 : Nat) (v : Option Value) (h : Heap) (L : List Loc) : Prop := ∃ b : Addr, ∃ kb : ClassId, v = some (.ref b) ∧ Fr n0 L ∧ Keep h0 h [] ∧ h0.size ≤ b ∧ Arv Z h b kb .byte (2 : Int32) [(.int ((c0.toInt8.toInt32).toInt8.toInt32)), (.int ((c1.toInt8.toInt32).toInt8.toInt32))] (.int 0)
theorem rmc3L2 (l : Launch) (Z : State) (a0 : Array Value) (G1 : Int32) (fm : Value) (hG : Glob Z a0 G1 fm) (ws : List Jvm.Cond) (a1 : Addr) (ka : ClassId) (c0 : Int32) (c1 : Int32) (h0 : Heap) (n0 : Nat) (Z0 : n0 ≤ h0.size) (X00 : Old Z n0 h0) (V_a1 : Arv Z h0 a1 ka .char (2 : Int32) [.int c0, .int c1] (.int 0)) (hl0 : ¬ ((255 : Int32) < c0)) (hl1 : ¬ ((255 : Int32) < c1)) :
    Met l Z h0 y16 jdk_52_method_16_code 6 (some (.array .byte)) ws (Room.mk 1 1 2 18) #[.ref a1, .int 0, .int 2] (Qc3L2 Z G1 fm a1 ka c0 c1 h0 n0) := by
  obtain ⟨hw, O_cs, P_cs, O_as, O_hi, O_lo, O_fm, R_fm⟩ := id hG
  have W := @own_W _ _ hw
  refine own_go "java/lang/StringUTF16" rfl (plainFor_of_name pn_java_lang_StringUTF16) ?_
  intro p e s m below meth c s₁ Bd hx hby hml hown hnm X0 e0 hZ
  have hB := @hb _ _ hby
  have N0 := Fr.nil n0
  obtain ⟨T137, h137, k137, X137, e137, E137, A137, Q137, st137⟩ := newPE X0 hx hZ (W 16 rfl) e0 (g := (mkF m 1 #[.val (.ref a1), .val (.int 0), .val (.int 2), .unset, .unset, .unset] [.int 2])) rfl (hB d16_1) rfl (by decide) (cap := 2) (by decide) (by decide) (by decide) (by decide) (ad := "[B") rfl
  obtain ⟨b137, g137⟩ : ∃ z, z = h0.size := ⟨_, rfl⟩
  rw [← g137] at A137 Q137 st137
  have Z138 : n0 ≤ h137.size := Nat.le_trans Z0 E137.1
  have K0_138 : Keep h0 h137 [] := (Keep.refl h0 []).ext E137
  have O138 : Old Z n0 h137 := X00.ext E137
  have lo_b137 : h0.size ≤ b137 := Nat.le_of_eq g137.symm
  have g_b137 : n0 ≤ b137 := Nat.le_trans Z0 lo_b137
  have l0_b137 : h0.size ≤ b137 := Nat.le_trans (Keep.refl h0 []).1 lo_b137
  have V_b137 : Arv Z h137 b137 k137 .byte (2 : Int32) [.int 0, .int 0] (.int 0) := (Arv.new A137 (by decide)).pad (pad_rep [] (.int 0) 2)
  have f140 := (V_a1.ext E137)
  -- pc 9: java/lang/StringUTF16.compress
  obtain ⟨_, _, ⟨T139, L139, k139, n139⟩, -, X139, ⟨Lc139, hQ139, l139, y139, z139⟩, st139⟩ := Jvm.LawKit.callS X137 hx (y := y12) hown (mvT hZ (W 42 rfl)) (mvT hZ (W 43 rfl)) (mvT hZ (W 40 rfl)) (mvT hZ (W 44 rfl)) (by decide) (backOf (W := 0) (rmc5L2 l Z a0 G1 fm hG [] a1 b137 ka k137 c0 c1 h137 n0 Z138 O138 f140 V_b137 g_b137 (Nat.ne_of_lt (Nat.lt_of_lt_of_le V_a1.lt lo_b137)) (by first | assumption | decide | rfl) (by first | assumption | decide | rfl)) hZ (W 44 rfl) (W 40 rfl) (by decide) (by decide)) (g := (mkF m 9 #[.val (.ref a1), .val (.int 0), .val (.int 2), .val (.ref b137), .unset, .unset] [.int 2, .int 0, .ref b137, .int 0, .ref a1])) rfl (by rw [hml]; rfl) (argsL := [.ref a1, .int 0, .ref b137, .int 0, .int 2]) (rest := []) (lenOf pd___CI_BII_I rfl) rfl (by show 2 * 0 + _ ≤ _; exact Nat.le_of_eq rfl) (hB d16_9) (fun _ _ => ⟨rfl, e137, (by decide : 1 + 0 ≤ _), (by decide : 2 + 0 ≤ _)⟩)
  dsimp only [Pt.U, Pt.locs, Pt.cells, Pt.slots] at X139 l139 y139 z139 st139 hQ139
  subst l139 y139 z139
  obtain ⟨rfl, N139q, K139, f139_0⟩ := hQ139
  have N139 := Fr.app N0 N139q
  have Z141 : n0 ≤ T139.heap.size := Nat.le_trans Z138 K139.1
  have K0_141 : Keep h0 T139.heap [] := K0_138.trans K139 (allS (Or.inr l0_b137) all0)
  have O141 : Old Z n0 T139.heap := O138.keep K139 (allS g_b137 all0)
  obtain ⟨fs, hr, hrun, hended, hW, hsame⟩ := X139.leave (v := some (.ref b137)) (fun h => by rw [Bd.returns] at h; cases h)
  refine ⟨_, _, castTop (ef_jdk_52_method_16_code_RII m a1 (0 : Int32) (2 : Int32)) ?_, hrun, hended, _, _, rfl, ?_, ⟨_, rfl⟩, hW, hsame.mono (own_ble rfl) (own_ble rfl)⟩
  · show Steps _ _ _ (s₁.setTop (mkF m 0 #[.val (.ref a1), .val (.int 0), .val (.int 2), .unset, .unset, .unset] [])) _
    refine XS.iloadN X0.here hx rfl (hB d16_0) rfl ?_
    refine st137 _ ?_
    show Steps _ _ _ (T137.setTop (mkF m 3 #[.val (.ref a1), .val (.int 0), .val (.int 2), .unset, .unset, .unset] [.ref b137])) _
    refine XS.astoreN X137.here hx rfl (hB d16_3) rfl rfl (l' := #[.val (.ref a1), .val (.int 0), .val (.int 2), .val (.ref b137), .unset, .unset]) rfl ?_
    refine XS.aloadN X137.here hx rfl (hB d16_4) rfl rfl ?_
    refine XS.iloadN X137.here hx rfl (hB d16_5) rfl ?_
    refine XS.aloadN X137.here hx rfl (hB d16_6) rfl rfl ?_
    refine XS.iconst X137.here hx rfl (hB d16_7) ?_
    refine XS.iloadN X137.here hx rfl (hB d16_8) rfl ?_
    refine st139 _ ?_
    show Steps _ _ _ (T139.setTop (mkF m 12 #[.val (.ref a1), .val (.int 0), .val (.int 2), .val (.ref b137), .unset, .unset] [.int 2])) _
    refine XS.istore X139.here hx rfl (hB d16_12) rfl (l' := #[.val (.ref a1), .val (.int 0), .val (.int 2), .val (.ref b137), .val (.int 2), .unset]) rfl ?_
    refine XS.iload X139.here hx rfl (hB d16_14) rfl ?_
    refine XS.iloadN X139.here hx rfl (hB d16_16) rfl ?_
    refine XS.icmpYes X139.here hx rfl (pc0 := 17) (pc' := 57) rfl (hB d16_17) rfl (teq (by decide : (2 : Int32) = (2 : Int32))).1 (by decide) (by decide) ?_
    refine XS.aloadN X139.here hx rfl (hB d16_57) rfl rfl ?_
    exact retOut X139 hx Bd.returns rfl (Or.inr (Or.inr (Or.inr (Or.inr ⟨rfl, rfl, rfl⟩)))) (hB d16_58) hr
  · show Qc3L2 Z G1 fm a1 ka c0 c1 h0 n0 _ T139.heap _
    exact ⟨b137, k137, rfl, N139, K0_141, l0_b137, f139_0⟩
def Qc3W2 (Z : State) (G1 : Int32) (fm : Value) (a1 : Addr) (ka : ClassId) (c0 : Int32) (c1 : Int32) (h0 : Heap) (n0 : Nat) (v : Option Value) (h : Heap) (L : List Loc) : Prop := ∃ b : Addr, ∃ kb : ClassId, v = some (.ref b) ∧ Fr n0 L ∧ Keep h0 h [] ∧ h0.size ≤ b ∧ Arv Z h b kb .byte (4 : Int32) [(.int (((c0 >>> ((0 : Int32) &&& 31)).toInt8.toInt32).toInt8.toInt32)), (.int (((c0 >>> ((8 : Int32) &&& 31)).toInt8.toInt32).toInt8.toInt32)), (.int (((c1 >>> ((0 : Int32) &&& 31)).toInt8.toInt32).toInt8.toInt32)), (.int (((c1 >>> ((8 : Int32) &&& 31)).toInt8.toInt32).toInt8.toInt32))] (.int 0)
theorem rmc3W2 (l : Launch) (Z : State) (a0 : Array Value) (G1 : Int32) (fm : Value) (hG : Glob Z a0 G1 fm) (ws : List Jvm.Cond) (a1 : Addr) (ka : ClassId) (c0 : Int32) (c1 : Int32) (h0 : Heap) (n0 : Nat) (Z0 : n0 ≤ h0.size) (X00 : Old Z n0 h0) (V_a1 : Arv Z h0 a1 ka .char (2 : Int32) [.int c0, .int c1] (.int 0)) (hwid : ¬ (¬ ((255 : Int32) < c0) ∧ ¬ ((255 : Int32) < c1))) (hu : ∀ c ∈ ([c0, c1] : List Int32), own_u16 c) :
    Met l Z h0 y16 jdk_52_method_16_code 6 (some (.array .byte)) ws (Room.mk 3 2 6 40) #[.ref a1, .int 0, .int 2] (Qc3W2 Z G1 fm a1 ka c0 c1 h0 n0) := by
  obtain ⟨hw, O_cs, P_cs, O_as, O_hi, O_lo, O_fm, R_fm⟩ := id hG
  have W := @own_W _ _ hw
  refine own_go "java/lang/StringUTF16" rfl (plainFor_of_name pn_java_lang_StringUTF16) ?_
  intro p e s m below meth c s₁ Bd hx hby hml hown hnm X0 e0 hZ
  have hB := @hb _ _ hby
  have N0 := Fr.nil n0
  obtain ⟨T142, h142, k142, X142, e142, E142, A142, Q142, st142⟩ := newPE X0 hx hZ (W 16 rfl) e0 (g := (mkF m 1 #[.val (.ref a1), .val (.int 0), .val (.int 2), .unset, .unset, .unset] [.int 2])) rfl (hB d16_1) rfl (by decide) (cap := 2) (by decide) (by decide) (by decide) (by decide) (ad := "[B") rfl
  obtain ⟨b142, g142⟩ : ∃ z, z = h0.size := ⟨_, rfl⟩
  rw [← g142] at A142 Q142 st142
  have Z143 : n0 ≤ h142.size := Nat.le_trans Z0 E142.1
  have K0_143 : Keep h0 h142 [] := (Keep.refl h0 []).ext E142
  have O143 : Old Z n0 h142 := X00.ext E142
  have lo_b142 : h0.size ≤ b142 := Nat.le_of_eq g142.symm
  have g_b142 : n0 ≤ b142 := Nat.le_trans Z0 lo_b142
  have l0_b142 : h0.size ≤ b142 := Nat.le_trans (Keep.refl h0 []).1 lo_b142
  have V_b142 : Arv Z h142 b142 k142 .byte (2 : Int32) [.int 0, .int 0] (.int 0) := (Arv.new A142 (by decide)).pad (pad_rep [] (.int 0) 2)
  have f145 := (V_a1.ext E142)
  -- pc 9: java/lang/StringUTF16.compress
  obtain ⟨_, _, ⟨T144, L144, k144, n144⟩, -, X144, ⟨Lc144, hQ144, l144, y144, z144⟩, st144⟩ := Jvm.LawKit.callS X142 hx (y := y12) hown (mvT hZ (W 42 rfl)) (mvT hZ (W 43 rfl)) (mvT hZ (W 40 rfl)) (mvT hZ (W 44 rfl)) (by decide) (backOf (W := 0) (rmc5W2 l Z a0 G1 fm hG [] a1 b142 ka k142 c0 c1 h142 n0 Z143 O143 f145 V_b142 g_b142 (Nat.ne_of_lt (Nat.lt_of_lt_of_le V_a1.lt lo_b142)) (by first | assumption | decide | rfl)) hZ (W 44 rfl) (W 40 rfl) (by decide) (by decide)) (g := (mkF m 9 #[.val (.ref a1), .val (.int 0), .val (.int 2), .val (.ref b142), .unset, .unset] [.int 2, .int 0, .ref b142, .int 0, .ref a1])) rfl (by rw [hml]; rfl) (argsL := [.ref a1, .int 0, .ref b142, .int 0, .int 2]) (rest := []) (lenOf pd___CI_BII_I rfl) rfl (by show 2 * 0 + _ ≤ _; exact Nat.le_of_eq rfl) (hB d16_9) (fun _ _ => ⟨rfl, e142, (by decide : 1 + 0 ≤ _), (by decide : 2 + 0 ≤ _)⟩)
  dsimp only [Pt.U, Pt.locs, Pt.cells, Pt.slots] at X144 l144 y144 z144 st144 hQ144
  subst l144 y144 z144
  obtain ⟨j_144, rfl, N144q, K144, f144_0⟩ := hQ144
  have N144 := Fr.app N0 N144q
  have Z146 : n0 ≤ T144.heap.size := Nat.le_trans Z143 K144.1
  have K0_146 : Keep h0 T144.heap [] := K0_143.trans K144 (allS (Or.inr l0_b142) all0)
  have O146 : Old Z n0 T144.heap := O143.keep K144 (allS g_b142 all0)
  have f148 := (f145.keep K144 (ninS (Nat.ne_of_lt (Nat.lt_of_lt_of_le V_a1.lt lo_b142)) nin0))
  -- pc 23: java/lang/StringUTF16.toBytes
  obtain ⟨_, _, ⟨T147, L147, k147, n147⟩, -, X147, ⟨Lc147, hQ147, l147, y147, z147⟩, st147⟩ := Jvm.LawKit.callS X144 hx (y := y15) hown (mvT hZ (W 84 rfl)) (mvT hZ (W 85 rfl)) (mvT hZ (W 40 rfl)) (mvT hZ (W 86 rfl)) (by decide) (backOf (W := 0) (rmtob2 l Z a0 G1 fm hG [] a1 ka c0 c1 T144.heap n0 Z146 O146 f148) hZ (W 86 rfl) (W 40 rfl) (by decide) (by decide)) (g := (mkF m 23 #[.val (.ref a1), .val (.int 0), .val (.int 2), .val (.ref b142), .val (.int j_144), .unset] [.int 2, .int 0, .ref a1])) rfl (by rw [hml]; rfl) (argsL := [.ref a1, .int 0, .int 2]) (rest := []) (lenOf pd___CII__B rfl) rfl (by show 2 * 0 + _ ≤ _; exact Nat.le_of_eq rfl) (hB d16_23) (fun _ _ => ⟨rfl, rfl, (by decide : 1 + 1 ≤ _), (by decide : 2 + 4 ≤ _)⟩)
  dsimp only [Pt.U, Pt.locs, Pt.cells, Pt.slots] at X147 l147 y147 z147 st147 hQ147
  subst l147 y147 z147
  obtain ⟨b_147, kb_147, rfl, N147q, K147, f147_0, f147_1⟩ := hQ147
  have N147 := Fr.app N144 N147q
  have Z149 : n0 ≤ T147.heap.size := Nat.le_trans Z146 K147.1
  have K0_149 : Keep h0 T147.heap [] := K0_146.trans K147 all0
  have O149 : Old Z n0 T147.heap := O146.keep K147 all0
  have lo_b_147 : T144.heap.size ≤ b_147 := f147_0
  have g_b_147 : n0 ≤ b_147 := Nat.le_trans Z146 lo_b_147
  have l0_b_147 : h0.size ≤ b_147 := Nat.le_trans K0_146.1 lo_b_147
  obtain ⟨K_, c_, hi_, hg_, hw_⟩ := id f144_0
  -- pc 32: java/lang/StringUTF16.getChar
  obtain ⟨_, _, ⟨T150, L150, k150, n150⟩, -, X150, ⟨Lc150, hQ150, l150, y150, z150⟩, st150⟩ := Jvm.LawKit.callS X147 hx (y := y0) hown (mvT hZ (W 100 rfl)) (mvT hZ (W 101 rfl)) (mvT hZ (W 40 rfl)) (mvT hZ (W 102 rfl)) (by decide) (backOf (W := 0) (rmgch l Z a0 G1 fm hG [] b_147 kb_147 (4 : Int32) ([(.int (((c0 >>> ((0 : Int32) &&& 31)).toInt8.toInt32).toInt8.toInt32)), (.int (((c0 >>> ((8 : Int32) &&& 31)).toInt8.toInt32).toInt8.toInt32)), (.int (((c1 >>> ((0 : Int32) &&& 31)).toInt8.toInt32).toInt8.toInt32)), (.int (((c1 >>> ((8 : Int32) &&& 31)).toInt8.toInt32).toInt8.toInt32))] : List Value) j_144 ([c0, c1] : List Int32) K_ c_ T147.heap n0 Z149 O149 f147_1 rfl rfl (own_ble rfl) hu hi_ hg_) hZ (W 102 rfl) (W 40 rfl) (by decide) (by decide)) (g := (mkF m 32 #[.val (.ref a1), .val (.int 0), .val (.int 2), .val (.ref b142), .val (.int j_144), .val (.ref b_147)] [.int j_144, .ref b_147])) rfl (by rw [hml]; rfl) (argsL := [.ref b_147, .int j_144]) (rest := []) (lenOf pd___BI_C rfl) rfl (by show 2 * 0 + _ ≤ _; exact Nat.le_of_eq rfl) (hB d16_32) (fun _ _ => ⟨rfl, rfl, (by decide : 2 + 0 ≤ _), (by decide : 6 + 0 ≤ _)⟩)
  dsimp only [Pt.U, Pt.locs, Pt.cells, Pt.slots] at X150 l150 y150 z150 st150 hQ150
  subst l150 y150 z150
  obtain ⟨rfl, N150q, eq150⟩ := hQ150
  have N150 := Fr.app N147 N150q
  obtain ⟨fs, hr, hrun, hended, hW, hsame⟩ := X150.leave (v := some (.ref b_147)) (fun h => by rw [Bd.returns] at h; cases h)
  refine ⟨_, _, castTop (ef_jdk_52_method_16_code_RII m a1 (0 : Int32) (2 : Int32)) ?_, hrun, hended, _, _, rfl, ?_, ⟨_, rfl⟩, hW, hsame.mono (own_ble rfl) (own_ble rfl)⟩
  · show Steps _ _ _ (s₁.setTop (mkF m 0 #[.val (.ref a1), .val (.int 0), .val (.int 2), .unset, .unset, .unset] [])) _
    refine XS.iloadN X0.here hx rfl (hB d16_0) rfl ?_
    refine st142 _ ?_
    show Steps _ _ _ (T142.setTop (mkF m 3 #[.val (.ref a1), .val (.int 0), .val (.int 2), .unset, .unset, .unset] [.ref b142])) _
    refine XS.astoreN X142.here hx rfl (hB d16_3) rfl rfl (l' := #[.val (.ref a1), .val (.int 0), .val (.int 2), .val (.ref b142), .unset, .unset]) rfl ?_
    refine XS.aloadN X142.here hx rfl (hB d16_4) rfl rfl ?_
    refine XS.iloadN X142.here hx rfl (hB d16_5) rfl ?_
    refine XS.aloadN X142.here hx rfl (hB d16_6) rfl rfl ?_
    refine XS.iconst X142.here hx rfl (hB d16_7) ?_
    refine XS.iloadN X142.here hx rfl (hB d16_8) rfl ?_
    refine st144 _ ?_
    show Steps _ _ _ (T144.setTop (mkF m 12 #[.val (.ref a1), .val (.int 0), .val (.int 2), .val (.ref b142), .unset, .unset] [.int j_144])) _
    refine XS.istore X144.here hx rfl (hB d16_12) rfl (l' := #[.val (.ref a1), .val (.int 0), .val (.int 2), .val (.ref b142), .val (.int j_144), .unset]) rfl ?_
    refine XS.iload X144.here hx rfl (hB d16_14) rfl ?_
    refine XS.iloadN X144.here hx rfl (hB d16_16) rfl ?_
    refine XS.icmpNo X144.here hx rfl (hB d16_17) rfl (feq (own_fne (cs := [c0, c1]) (own_ble rfl) f144_0 : ¬ (j_144 = (2 : Int32)))).1 ?_
    refine XS.aloadN X144.here hx rfl (hB d16_20) rfl rfl ?_
    refine XS.iloadN X144.here hx rfl (hB d16_21) rfl ?_
    refine XS.iloadN X144.here hx rfl (hB d16_22) rfl ?_
    refine st147 _ ?_
    show Steps _ _ _ (T147.setTop (mkF m 26 #[.val (.ref a1), .val (.int 0), .val (.int 2), .val (.ref b142), .val (.int j_144), .unset] [.ref b_147])) _
    refine XS.astore X147.here hx rfl (hB d16_26) rfl rfl (l' := #[.val (.ref a1), .val (.int 0), .val (.int 2), .val (.ref b142), .val (.int j_144), .val (.ref b_147)]) rfl ?_
    refine XS.aload X147.here hx rfl (hB d16_28) rfl rfl ?_
    refine XS.iload X147.here hx rfl (hB d16_30) rfl ?_
    refine st150 _ ?_
    show Steps _ _ _ (T150.setTop (mkF m 35 #[.val (.ref a1), .val (.int 0), .val (.int 2), .val (.ref b142), .val (.int j_144), .val (.ref b_147)] [.int c_])) _
    refine XS.sipush X150.here hx rfl (hB d16_35) ?_
    refine XS.icmpYes X150.here hx rfl (pc0 := 38) (pc' := 54) rfl (hB d16_38) rfl (tlt (hw_ : (255 : Int32) < c_)).2.2.1 (by decide) (by decide) ?_
    refine XS.aload X150.here hx rfl (hB d16_54) rfl rfl ?_
    exact retOut X150 hx Bd.returns rfl (Or.inr (Or.inr (Or.inr (Or.inr ⟨rfl, rfl, rfl⟩)))) (hB d16_56) hr
  · show Qc3W2 Z G1 fm a1 ka c0 c1 h0 n0 _ T150.heap _
    rw [eq150]
    exact ⟨b_147, kb_147, rfl, N150, K0_149, l0_b_147, f147_1⟩
def QcfaL2 (Z : State) (G1 : Int32) (fm : Value) (b : Addr) (kb : ClassId) (vs : List Value) (h0 : Heap) (n0 : Nat) (v : Option Value) (h : Heap) (L : List Loc) : Prop := v = some (.int 0) ∧ Fr n0 L ∧ h = h0
theorem rmcfaL2 (l : Launch) (Z : State) (a0 : Array Value) (G1 : Int32) (fm : Value) (hG : Glob Z a0 G1 fm) (ws : List Jvm.Cond) (b : Addr) (kb : ClassId) (vs : List Value) (h0 : Heap) (n0 : Nat) (Z0 : n0 ≤ h0.size) (X00 : Old Z n0 h0) (V_b : Arv Z h0 b kb .byte (2 : Int32) vs (.int 0)) :
    Met l Z h0 y17 jdk_52_method_15_code 2 (some .byte) ws (Room.mk 0 0 0 0) #[.ref b, .int 2] (QcfaL2 Z G1 fm b kb vs h0 n0) := by
  obtain ⟨hw, O_cs, P_cs, O_as, O_hi, O_lo, O_fm, R_fm⟩ := id hG
  have W := @own_W _ _ hw
  refine own_go "java/lang/StringUTF16" rfl (plainFor_of_name pn_java_lang_StringUTF16) ?_
  intro p e s m below meth c s₁ Bd hx hby hml hown hnm X0 e0 hZ
  have hB := @hb _ _ hby
  have N0 := Fr.nil n0
  obtain ⟨clq151, Arq151, qaq151, Sq151, Nq151, Hq151, Gq151⟩ := id V_b
  obtain ⟨fs, hr, hrun, hended, hW, hsame⟩ := X0.leave (v := some (.int 0)) (fun h => by rw [Bd.returns] at h; cases h)
  refine ⟨_, _, castTop (ef_jdk_52_method_15_code_RI m b (2 : Int32)) ?_, hrun, hended, _, _, rfl, ?_, ⟨_, rfl⟩, hW, hsame.mono (own_ble rfl) (own_ble rfl)⟩
  · show Steps _ _ _ (s₁.setTop (mkF m 0 #[.val (.ref b), .val (.int 2)] [])) _
    refine XS.iloadN X0.here hx rfl (hB d17_0) rfl ?_
    refine XS.aloadN X0.here hx rfl (hB d17_1) rfl rfl ?_
    refine X0.arraylength hx (own_cell e0 Arq151.1) (State.isArrayOf_alike hZ.alike Arq151.2.1) (g := (mkF m 2 #[.val (.ref b), .val (.int 2)] [.ref b, .int 2])) rfl rfl (hB d17_2) _ ?_
    rw [len_of Sq151 Nq151]
    refine XS.isub X0.here hx rfl (hB d17_3) rfl ?_
    refine XS.bipush X0.here hx rfl (hB d17_4) ?_
    refine XS.iushr X0.here hx rfl (hB d17_6) rfl ?_
    refine XS.i2b X0.here hx rfl (hB d17_7) rfl ?_
    exact retN X0 hx (t := .byte) Bd.returns (by simp) (hB d17_8) hr
  · show QcfaL2 Z G1 fm b kb vs h0 n0 _ s₁.heap _
    rw [e0]
    exact ⟨rfl, N0, rfl⟩
def QviL2 (Z : State) (G1 : Int32) (fm : Value) (a1 : Addr) (b : Addr) (ka : ClassId) (c0 : Int32) (c1 : Int32) (h0 : Heap) (n0 : Nat) (v : Option Value) (h : Heap) (L : List Loc) : Prop := ∃ t : Addr, ∃ kb : ClassId, v = none ∧ Fr n0 L ∧ Keep h0 h [a1] ∧ Exa Z h a1 "java/lang/String" ∧ Fld Z h a1 "java/lang/String" "coder" "B" (.int 0) ∧ Fld Z h a1 "java/lang/String" "value" "[B" (.ref t) ∧ Arv Z h t kb .byte (2 : Int32) [(.int ((c0.toInt8.toInt32).toInt8.toInt32)), (.int ((c1.toInt8.toInt32).toInt8.toInt32))] (.int 0)
theorem rmviL2 (l : Launch) (Z : State) (a0 : Array Value) (G1 : Int32) (fm : Value) (hG : Glob Z a0 G1 fm) (ws : List Jvm.Cond) (a1 : Addr) (b : Addr) (ka : ClassId) (c0 : Int32) (c1 : Int32) (h0 : Heap) (n0 : Nat) (Z0 : n0 ≤ h0.size) (X00 : Old Z n0 h0) (E_a1 : Exa Z h0 a1 "java/lang/String") (g_a1 : n0 ≤ a1) (F_value_a1 : Fld Z h0 a1 "java/lang/String" "value" "[B" .null) (F_coder_a1 : Fld Z h0 a1 "java/lang/String" "coder" "B" (.int 0)) (V_b : Arv Z h0 b ka .char (2 : Int32) [.int c0, .int c1] (.int 0)) (ne_b_a1 : b ≠ a1) (hl0 : ¬ ((255 : Int32) < c0)) (hl1 : ¬ ((255 : Int32) < c1)) :
    Met l Z h0 y18 jdk_42_method_149_code 6 none ws (Room.mk 2 1 2 35) #[.ref a1, .ref b, .int 0, .int 2, .null] (QviL2 Z G1 fm a1 b ka c0 c1 h0 n0) := by
  obtain ⟨hw, O_cs, P_cs, O_as, O_hi, O_lo, O_fm, R_fm⟩ := id hG
  have W := @own_W _ _ hw
  refine own_go "java/lang/String" rfl (plainFor_of_name pn_java_lang_String) ?_
  intro p e s m below meth c s₁ Bd hx hby hml hown hnm X0 e0 hZ
  have hB := @hb _ _ hby
  have N0 := Fr.nil n0
  obtain ⟨T152, X152, e152, st152⟩ := initO X0 hx hZ hown (W 12 rfl) (W 13 rfl) (W 14 rfl) e0 (g := (mkF m 1 #[.val (.ref a1), .val (.ref b), .val (.int 0), .val (.int 2), .val .null, .unset] [.ref a1])) rfl (by rw [hml]; rfl) rfl (hB d18_1) (by decide) (W := 0) (by show 2 * 0 + _ ≤ _; exact Nat.le_of_eq rfl) (by decide)
  obtain ⟨T153, X153, e153, st153⟩ := getS2 X152 hx hZ hown (host := "") (Or.inl (W 37 rfl)) Via.refl e152 (O_cs.ext X00.2) (g := (mkF m 27 #[.val (.ref a1), .val (.ref b), .val (.int 0), .val (.int 2), .val .null, .unset] [])) rfl (hB d18_27)
  -- pc 36: java/lang/StringUTF16.compress
  obtain ⟨_, _, ⟨T154, L154, k154, n154⟩, -, X154, ⟨Lc154, hQ154, l154, y154, z154⟩, st154⟩ := Jvm.LawKit.callS X153 hx (y := y16) hown (mvT hZ (W 38 rfl)) (mvT hZ (W 39 rfl)) (mvT hZ (W 40 rfl)) (mvT hZ (W 41 rfl)) (by decide) (backOf (W := 0) (rmc3L2 l Z a0 G1 fm hG [] b ka c0 c1 h0 n0 Z0 X00 V_b (by first | assumption | decide | rfl) (by first | assumption | decide | rfl)) hZ (W 41 rfl) (W 40 rfl) (by decide) (by decide)) (g := (mkF m 36 #[.val (.ref a1), .val (.ref b), .val (.int 0), .val (.int 2), .val .null, .unset] [.int 2, .int 0, .ref b])) rfl (by rw [hml]; rfl) (argsL := [.ref b, .int 0, .int 2]) (rest := []) (lenOf pd___CII__B rfl) rfl (by show 2 * 0 + _ ≤ _; exact Nat.le_of_eq rfl) (hB d18_36) (fun _ _ => ⟨rfl, e153, (by decide : 0 + 1 ≤ _), (by decide : 0 + 2 ≤ _)⟩)
  dsimp only [Pt.U, Pt.locs, Pt.cells, Pt.slots] at X154 l154 y154 z154 st154 hQ154
  subst l154 y154 z154
  obtain ⟨b_154, kb_154, rfl, N154q, K154, f154_0, f154_1⟩ := hQ154
  have N154 := Fr.app N0 N154q
  have Z155 : n0 ≤ T154.heap.size := Nat.le_trans Z0 K154.1
  have K0_155 : Keep h0 T154.heap [a1] := (Keep.refl h0 [a1]).trans K154 all0
  have O155 : Old Z n0 T154.heap := X00.keep K154 all0
  have lo_b_154 : h0.size ≤ b_154 := f154_0
  have g_b_154 : n0 ≤ b_154 := Nat.le_trans Z0 lo_b_154
  have l0_b_154 : h0.size ≤ b_154 := Nat.le_trans (Keep.refl h0 [a1]).1 lo_b_154
  -- pc 45: java/lang/StringUTF16.coderFromArrayLen
  obtain ⟨_, _, ⟨T156, L156, k156, n156⟩, -, X156, ⟨Lc156, hQ156, l156, y156, z156⟩, st156⟩ := Jvm.LawKit.callS X154 hx (y := y17) hown (mvT hZ (W 45 rfl)) (mvT hZ (W 46 rfl)) (mvT hZ (W 40 rfl)) (mvT hZ (W 47 rfl)) (by decide) (backOf (W := 1) (rmcfaL2 l Z a0 G1 fm hG [] b_154 kb_154 ([(.int ((c0.toInt8.toInt32).toInt8.toInt32)), (.int ((c1.toInt8.toInt32).toInt8.toInt32))] : List Value) T154.heap n0 Z155 O155 f154_1) hZ (W 47 rfl) (W 40 rfl) (by decide) (by decide)) (g := (mkF m 45 #[.val (.ref a1), .val (.ref b), .val (.int 0), .val (.int 2), .val .null, .val (.ref b_154)] [.int 2, .ref b_154, .ref a1])) rfl (by rw [hml]; rfl) (argsL := [.ref b_154, .int 2]) (rest := [.ref a1]) (lenOf pd___BI_B rfl) rfl (by show 2 * 0 + _ ≤ _; exact Nat.le_of_eq rfl) (hB d18_45) (fun _ _ => ⟨rfl, rfl, (by decide : 1 + 0 ≤ _), (by decide : 2 + 0 ≤ _)⟩)
  dsimp only [Pt.U, Pt.locs, Pt.cells, Pt.slots] at X156 l156 y156 z156 st156 hQ156
  subst l156 y156 z156
  obtain ⟨rfl, N156q, eq156⟩ := hQ156
  have N156 := Fr.app N154 N156q
  have f157 := (E_a1.keep K154)
  have f158 := (F_coder_a1.keep K154 nin0)
  obtain ⟨T159, h159, X159, e159, W159, st159⟩ := putF X156 hx hZ hown (host := "") (Or.inl (W 22 rfl)) Via.refl eq156 f158 f157 (Or.inr ⟨(W 18 rfl), rfl, hnm⟩) (W 3 rfl) (ty := .byte) (by decide) rfl rfl (g := (mkF m 48 #[.val (.ref a1), .val (.ref b), .val (.int 0), .val (.int 2), .val .null, .val (.ref b_154)] [.int 0, .ref a1])) rfl rfl (hB d18_48)
  have Fw159 := f158.same W159
  have Z160 : n0 ≤ h159.size := Nat.le_trans Z155 (Keep.of_wr W159).1
  have K0_160 : Keep h0 h159 [a1] := K0_155.wr W159 (Or.inl (List.mem_of_getElem? (i := 0) rfl))
  have O160 : Old Z n0 h159 := O155.wr W159 g_a1
  have N159 := Fr.snoc X159 N156 g_a1
  have f161 := (f157.wr W159)
  have f162 := ((F_value_a1.keep K154 nin0).other W159 (Or.inr (slot_ne (Or.inr (W 17 rfl)) (Or.inr (W 18 rfl)) (by decide) (t := (.array .byte)) (t' := .byte) (by decide) (by decide))))
  obtain ⟨T163, h163, X163, e163, W163, st163⟩ := putF X159 hx hZ hown (host := "") (Or.inl (W 21 rfl)) Via.refl e159 f162 f161 (Or.inr ⟨(W 17 rfl), rfl, hnm⟩) (W 3 rfl) (ty := (.array .byte)) (by decide) rfl rfl (g := (mkF m 54 #[.val (.ref a1), .val (.ref b), .val (.int 0), .val (.int 2), .val .null, .val (.ref b_154)] [.ref b_154, .ref a1])) rfl rfl (hB d18_54)
  have Fw163 := f162.same W163
  have Z164 : n0 ≤ h163.size := Nat.le_trans Z160 (Keep.of_wr W163).1
  have K0_164 : Keep h0 h163 [a1] := K0_160.wr W163 (Or.inl (List.mem_of_getElem? (i := 0) rfl))
  have O164 : Old Z n0 h163 := O160.wr W163 g_a1
  have N163 := Fr.snoc X163 N159 g_a1
  have f165 := (f161.wr W163)
  have f166 := (Fw159.other W163 (Or.inr (slot_ne (Or.inr (W 18 rfl)) (Or.inr (W 17 rfl)) (by decide) (t := .byte) (t' := (.array .byte)) (by decide) (by decide))))
  have f167 := ((f154_1.other W159 (Ne.symm (Nat.ne_of_lt (Nat.lt_of_lt_of_le E_a1.lt lo_b_154)))).other W163 (Ne.symm (Nat.ne_of_lt (Nat.lt_of_lt_of_le E_a1.lt lo_b_154))))
  obtain ⟨fs, hr, hrun, hended, hW, hsame⟩ := X163.leave (v := none) (fun _ => rfl)
  refine ⟨_, _, castTop (ef_jdk_42_method_149_code_RRIIN m a1 b (0 : Int32) (2 : Int32)) ?_, hrun, hended, _, _, rfl, ?_, ⟨_, rfl⟩, hW, hsame.mono (own_ble rfl) (own_ble rfl)⟩
  · show Steps _ _ _ (s₁.setTop (mkF m 0 #[.val (.ref a1), .val (.ref b), .val (.int 0), .val (.int 2), .val .null, .unset] [])) _
    refine XS.aloadN X0.here hx rfl (hB d18_0) rfl rfl ?_
    refine st152 _ ?_
    show Steps _ _ _ (T152.setTop (mkF m 4 #[.val (.ref a1), .val (.ref b), .val (.int 0), .val (.int 2), .val .null, .unset] [])) _
    refine XS.iloadN X152.here hx rfl (hB d18_4) rfl ?_
    refine XS.ifYes X152.here hx rfl (pc0 := 5) (pc' := 27) rfl (hB d18_5) rfl ((if0 _ _).trans (feq (by decide : ¬ ((2 : Int32) = (0 : Int32)))).2) (by decide) (by decide) ?_
    refine st153 _ ?_
    show Steps _ _ _ (T153.setTop (mkF m 30 #[.val (.ref a1), .val (.ref b), .val (.int 0), .val (.int 2), .val .null, .unset] [.int G1])) _
    refine XS.ifNo X153.here hx rfl (hB d18_30) rfl ((if0 _ _).trans (feq (P_cs : ¬ (G1 = (0 : Int32)))).1) ?_
    refine XS.aloadN X153.here hx rfl (hB d18_33) rfl rfl ?_
    refine XS.iloadN X153.here hx rfl (hB d18_34) rfl ?_
    refine XS.iloadN X153.here hx rfl (hB d18_35) rfl ?_
    refine st154 _ ?_
    show Steps _ _ _ (T154.setTop (mkF m 39 #[.val (.ref a1), .val (.ref b), .val (.int 0), .val (.int 2), .val .null, .unset] [.ref b_154])) _
    refine XS.astore X154.here hx rfl (hB d18_39) rfl rfl (l' := #[.val (.ref a1), .val (.ref b), .val (.int 0), .val (.int 2), .val .null, .val (.ref b_154)]) rfl ?_
    refine XS.aloadN X154.here hx rfl (hB d18_41) rfl rfl ?_
    refine XS.aload X154.here hx rfl (hB d18_42) rfl rfl ?_
    refine XS.iloadN X154.here hx rfl (hB d18_44) rfl ?_
    refine st156 _ ?_
    show Steps _ _ _ (T156.setTop (mkF m 48 #[.val (.ref a1), .val (.ref b), .val (.int 0), .val (.int 2), .val .null, .val (.ref b_154)] [.int 0, .ref a1])) _
    refine st159 _ ?_
    show Steps _ _ _ (T159.setTop (mkF m 51 #[.val (.ref a1), .val (.ref b), .val (.int 0), .val (.int 2), .val .null, .val (.ref b_154)] [])) _
    refine XS.aloadN X159.here hx rfl (hB d18_51) rfl rfl ?_
    refine XS.aload X159.here hx rfl (hB d18_52) rfl rfl ?_
    refine st163 _ ?_
    show Steps _ _ _ (T163.setTop (mkF m 57 #[.val (.ref a1), .val (.ref b), .val (.int 0), .val (.int 2), .val .null, .val (.ref b_154)] [])) _
    exact X163.returnOut hx Bd.returns (hB d18_57) hr
  · show QviL2 Z G1 fm a1 b ka c0 c1 h0 n0 _ T163.heap _
    rw [e163]
    exact ⟨b_154, kb_154, rfl, N163, K0_164, f165, f166, Fw163, f167⟩
def QcfaW2 (Z : State) (G1 : Int32) (fm : Value) (b : Addr) (kb : ClassId) (vs : List Value) (h0 : Heap) (n0 : Nat) (v : Option Value) (h : Heap) (L : List Loc) : Prop := v = some (.int 1) ∧ Fr n0 L ∧ h = h0
theorem rmcfaW2 (l : Launch) (Z : State) (a0 : Array Value) (G1 : Int32) (fm : Value) (hG : Glob Z a0 G1 fm) (ws : List Jvm.Cond) (b : Addr) (kb : ClassId) (vs : List Value) (h0 : Heap) (n0 : Nat) (Z0 : n0 ≤ h0.size) (X00 : Old Z n0 h0) (V_b : Arv Z h0 b kb .byte (4 : Int32) vs (.int 0)) :
    Met l Z h0 y17 jdk_52_method_15_code 2 (some .byte) ws (Room.mk 0 0 0 0) #[.ref b, .int 2] (QcfaW2 Z G1 fm b kb vs h0 n0) := by
  obtain ⟨hw, O_cs, P_cs, O_as, O_hi, O_lo, O_fm, R_fm⟩ := id hG
  have W := @own_W _ _ hw
  refine own_go "java/lang/StringUTF16" rfl (plainFor_of_name pn_java_lang_StringUTF16) ?_
  intro p e s m below meth c s₁ Bd hx hby hml hown hnm X0 e0 hZ
  have hB := @hb _ _ hby
  have N0 := Fr.nil n0
  obtain ⟨clq171, Arq171, qaq171, Sq171, Nq171, Hq171, Gq171⟩ := id V_b
  obtain ⟨fs, hr, hrun, hended, hW, hsame⟩ := X0.leave (v := some (.int 1)) (fun h => by rw [Bd.returns] at h; cases h)
  refine ⟨_, _, castTop (ef_jdk_52_method_15_code_RI m b (2 : Int32)) ?_, hrun, hended, _, _, rfl, ?_, ⟨_, rfl⟩, hW, hsame.mono (own_ble rfl) (own_ble rfl)⟩
  · show Steps _ _ _ (s₁.setTop (mkF m 0 #[.val (.ref b), .val (.int 2)] [])) _
    refine XS.iloadN X0.here hx rfl (hB d17_0) rfl ?_
    refine XS.aloadN X0.here hx rfl (hB d17_1) rfl rfl ?_
    refine X0.arraylength hx (own_cell e0 Arq171.1) (State.isArrayOf_alike hZ.alike Arq171.2.1) (g := (mkF m 2 #[.val (.ref b), .val (.int 2)] [.ref b, .int 2])) rfl rfl (hB d17_2) _ ?_
    rw [len_of Sq171 Nq171]
    refine XS.isub X0.here hx rfl (hB d17_3) rfl ?_
    refine XS.bipush X0.here hx rfl (hB d17_4) ?_
    refine XS.iushr X0.here hx rfl (hB d17_6) rfl ?_
    refine XS.i2b X0.here hx rfl (hB d17_7) rfl ?_
    exact retN X0 hx (t := .byte) Bd.returns (by simp) (hB d17_8) hr
  · show QcfaW2 Z G1 fm b kb vs h0 n0 _ s₁.heap _
    rw [e0]
    exact ⟨rfl, N0, rfl⟩
def QviW2 (Z : State) (G1 : Int32) (fm : Value) (a1 : Addr) (b : Addr) (ka : ClassId) (c0 : Int32) (c1 : Int32) (h0 : Heap) (n0 : Nat) (v : Option Value) (h : Heap) (L : List Loc) : Prop := ∃ t : Addr, ∃ kb : ClassId, v = none ∧ Fr n0 L ∧ Keep h0 h [a1] ∧ Exa Z h a1 "java/lang/String" ∧ Fld Z h a1 "java/lang/String" "coder" "B" (.int 1) ∧ Fld Z h a1 "java/lang/String" "value" "[B" (.ref t) ∧ Arv Z h t kb .byte (4 : Int32) [(.int (((c0 >>> ((0 : Int32) &&& 31)).toInt8.toInt32).toInt8.toInt32)), (.int (((c0 >>> ((8 : Int32) &&& 31)).toInt8.toInt32).toInt8.toInt32)), (.int (((c1 >>> ((0 : Int32) &&& 31)).toInt8.toInt32).toInt8.toInt32)), (.int (((c1 >>> ((8 : Int32) &&& 31)).toInt8.toInt32).toInt8.toInt32))] (.int 0)
theorem rmviW2 (l : Launch) (Z : State) (a0 : Array Value) (G1 : Int32) (fm : Value) (hG : Glob Z a0 G1 fm) (ws : List Jvm.Cond) (a1 : Addr) (b : Addr) (ka : ClassId) (c0 : Int32) (c1 : Int32) (h0 : Heap) (n0 : Nat) (Z0 : n0 ≤ h0.size) (X00 : Old Z n0 h0) (E_a1 : Exa Z h0 a1 "java/lang/String") (g_a1 : n0 ≤ a1) (F_value_a1 : Fld Z h0 a1 "java/lang/String" "value" "[B" .null) (F_coder_a1 : Fld Z h0 a1 "java/lang/String" "coder" "B" (.int 0)) (V_b : Arv Z h0 b ka .char (2 : Int32) [.int c0, .int c1] (.int 0)) (ne_b_a1 : b ≠ a1) (hwid : ¬ (¬ ((255 : Int32) < c0) ∧ ¬ ((255 : Int32) < c1))) (hu : ∀ c ∈ ([c0, c1] : List Int32), own_u16 c) :
    Met l Z h0 y18 jdk_42_method_149_code 6 none ws (Room.mk 4 2 6 57) #[.ref a1, .ref b, .int 0, .int 2, .null] (QviW2 Z G1 fm a1 b ka c0 c1 h0 n0) := by
  obtain ⟨hw, O_cs, P_cs, O_as, O_hi, O_lo, O_fm, R_fm⟩ := id hG
  have W := @own_W _ _ hw
  refine own_go "java/lang/String" rfl (plainFor_of_name pn_java_lang_String) ?_
  intro p e s m below meth c s₁ Bd hx hby hml hown hnm X0 e0 hZ
  have hB := @hb _ _ hby
  have N0 := Fr.nil n0
  obtain ⟨T172, X172, e172, st172⟩ := initO X0 hx hZ hown (W 12 rfl) (W 13 rfl) (W 14 rfl) e0 (g := (mkF m 1 #[.val (.ref a1), .val (.ref b), .val (.int 0), .val (.int 2), .val .null, .unset] [.ref a1])) rfl (by rw [hml]; rfl) rfl (hB d18_1) (by decide) (W := 0) (by show 2 * 0 + _ ≤ _; exact Nat.le_of_eq rfl) (by decide)
  obtain ⟨T173, X173, e173, st173⟩ := getS2 X172 hx hZ hown (host := "") (Or.inl (W 37 rfl)) Via.refl e172 (O_cs.ext X00.2) (g := (mkF m 27 #[.val (.ref a1), .val (.ref b), .val (.int 0), .val (.int 2), .val .null, .unset] [])) rfl (hB d18_27)
  -- pc 36: java/lang/StringUTF16.compress
  obtain ⟨_, _, ⟨T174, L174, k174, n174⟩, -, X174, ⟨Lc174, hQ174, l174, y174, z174⟩, st174⟩ := Jvm.LawKit.callS X173 hx (y := y16) hown (mvT hZ (W 38 rfl)) (mvT hZ (W 39 rfl)) (mvT hZ (W 40 rfl)) (mvT hZ (W 41 rfl)) (by decide) (backOf (W := 0) (rmc3W2 l Z a0 G1 fm hG [] b ka c0 c1 h0 n0 Z0 X00 V_b (by first | assumption | decide | rfl) (by first | assumption | decide | rfl)) hZ (W 41 rfl) (W 40 rfl) (by decide) (by decide)) (g := (mkF m 36 #[.val (.ref a1), .val (.ref b), .val (.int 0), .val (.int 2), .val .null, .unset] [.int 2, .int 0, .ref b])) rfl (by rw [hml]; rfl) (argsL := [.ref b, .int 0, .int 2]) (rest := []) (lenOf pd___CII__B rfl) rfl (by show 2 * 0 + _ ≤ _; exact Nat.le_of_eq rfl) (hB d18_36) (fun _ _ => ⟨rfl, e173, (by decide : 0 + 2 ≤ _), (by decide : 0 + 6 ≤ _)⟩)
  dsimp only [Pt.U, Pt.locs, Pt.cells, Pt.slots] at X174 l174 y174 z174 st174 hQ174
  subst l174 y174 z174
  obtain ⟨b_174, kb_174, rfl, N174q, K174, f174_0, f174_1⟩ := hQ174
  have N174 := Fr.app N0 N174q
  have Z175 : n0 ≤ T174.heap.size := Nat.le_trans Z0 K174.1
  have K0_175 : Keep h0 T174.heap [a1] := (Keep.refl h0 [a1]).trans K174 all0
  have O175 : Old Z n0 T174.heap := X00.keep K174 all0
  have lo_b_174 : h0.size ≤ b_174 := f174_0
  have g_b_174 : n0 ≤ b_174 := Nat.le_trans Z0 lo_b_174
  have l0_b_174 : h0.size ≤ b_174 := Nat.le_trans (Keep.refl h0 [a1]).1 lo_b_174
  -- pc 45: java/lang/StringUTF16.coderFromArrayLen
  obtain ⟨_, _, ⟨T176, L176, k176, n176⟩, -, X176, ⟨Lc176, hQ176, l176, y176, z176⟩, st176⟩ := Jvm.LawKit.callS X174 hx (y := y17) hown (mvT hZ (W 45 rfl)) (mvT hZ (W 46 rfl)) (mvT hZ (W 40 rfl)) (mvT hZ (W 47 rfl)) (by decide) (backOf (W := 1) (rmcfaW2 l Z a0 G1 fm hG [] b_174 kb_174 ([(.int (((c0 >>> ((0 : Int32) &&& 31)).toInt8.toInt32).toInt8.toInt32)), (.int (((c0 >>> ((8 : Int32) &&& 31)).toInt8.toInt32).toInt8.toInt32)), (.int (((c1 >>> ((0 : Int32) &&& 31)).toInt8.toInt32).toInt8.toInt32)), (.int (((c1 >>> ((8 : Int32) &&& 31)).toInt8.toInt32).toInt8.toInt32))] : List Value) T174.heap n0 Z175 O175 f174_1) hZ (W 47 rfl) (W 40 rfl) (by decide) (by decide)) (g := (mkF m 45 #[.val (.ref a1), .val (.ref b), .val (.int 0), .val (.int 2), .val .null, .val (.ref b_174)] [.int 2, .ref b_174, .ref a1])) rfl (by rw [hml]; rfl) (argsL := [.ref b_174, .int 2]) (rest := [.ref a1]) (lenOf pd___BI_B rfl) rfl (by show 2 * 0 + _ ≤ _; exact Nat.le_of_eq rfl) (hB d18_45) (fun _ _ => ⟨rfl, rfl, (by decide : 2 + 0 ≤ _), (by decide : 6 + 0 ≤ _)⟩)
  dsimp only [Pt.U, Pt.locs, Pt.cells, Pt.slots] at X176 l176 y176 z176 st176 hQ176
  subst l176 y176 z176
  obtain ⟨rfl, N176q, eq176⟩ := hQ176
  have N176 := Fr.app N174 N176q
  have f177 := (E_a1.keep K174)
  have f178 := (F_coder_a1.keep K174 nin0)
  obtain ⟨T179, h179, X179, e179, W179, st179⟩ := putF X176 hx hZ hown (host := "") (Or.inl (W 22 rfl)) Via.refl eq176 f178 f177 (Or.inr ⟨(W 18 rfl), rfl, hnm⟩) (W 3 rfl) (ty := .byte) (by decide) rfl rfl (g := (mkF m 48 #[.val (.ref a1), .val (.ref b), .val (.int 0), .val (.int 2), .val .null, .val (.ref b_174)] [.int 1, .ref a1])) rfl rfl (hB d18_48)
  have Fw179 := f178.same W179
  have Z180 : n0 ≤ h179.size := Nat.le_trans Z175 (Keep.of_wr W179).1
  have K0_180 : Keep h0 h179 [a1] := K0_175.wr W179 (Or.inl (List.mem_of_getElem? (i := 0) rfl))
  have O180 : Old Z n0 h179 := O175.wr W179 g_a1
  have N179 := Fr.snoc X179 N176 g_a1
  have f181 := (f177.wr W179)
  have f182 := ((F_value_a1.keep K174 nin0).other W179 (Or.inr (slot_ne (Or.inr (W 17 rfl)) (Or.inr (W 18 rfl)) (by decide) (t := (.array .byte)) (t' := .byte) (by decide) (by decide))))
  obtain ⟨T183, h183, X183, e183, W183, st183⟩ := putF X179 hx hZ hown (host := "") (Or.inl (W 21 rfl)) Via.refl e179 f182 f181 (Or.inr ⟨(W 17 rfl), rfl, hnm⟩) (W 3 rfl) (ty := (.array .byte)) (by decide) rfl rfl (g := (mkF m 54 #[.val (.ref a1), .val (.ref b), .val (.int 0), .val (.int 2), .val .null, .val (.ref b_174)] [.ref b_174, .ref a1])) rfl rfl (hB d18_54)
  have Fw183 := f182.same W183
  have Z184 : n0 ≤ h183.size := Nat.le_trans Z180 (Keep.of_wr W183).1
  have K0_184 : Keep h0 h183 [a1] := K0_180.wr W183 (Or.inl (List.mem_of_getElem? (i := 0) rfl))
  have O184 : Old Z n0 h183 := O180.wr W183 g_a1
  have N183 := Fr.snoc X183 N179 g_a1
  have f185 := (f181.wr W183)
  have f186 := (Fw179.other W183 (Or.inr (slot_ne (Or.inr (W 18 rfl)) (Or.inr (W 17 rfl)) (by decide) (t := .byte) (t' := (.array .byte)) (by decide) (by decide))))
  have f187 := ((f174_1.other W179 (Ne.symm (Nat.ne_of_lt (Nat.lt_of_lt_of_le E_a1.lt lo_b_174)))).other W183 (Ne.symm (Nat.ne_of_lt (Nat.lt_of_lt_of_le E_a1.lt lo_b_174))))
  obtain ⟨fs, hr, hrun, hended, hW, hsame⟩ := X183.leave (v := none) (fun _ => rfl)
  refine ⟨_, _, castTop (ef_jdk_42_method_149_code_RRIIN m a1 b (0 : Int32) (2 : Int32)) ?_, hrun, hended, _, _, rfl, ?_, ⟨_, rfl⟩, hW, hsame.mono (own_ble rfl) (own_ble rfl)⟩
  · show Steps _ _ _ (s₁.setTop (mkF m 0 #[.val (.ref a1), .val (.ref b), .val (.int 0), .val (.int 2), .val .null, .unset] [])) _
    refine XS.aloadN X0.here hx rfl (hB d18_0) rfl rfl ?_
    refine st172 _ ?_
    show Steps _ _ _ (T172.setTop (mkF m 4 #[.val (.ref a1), .val (.ref b), .val (.int 0), .val (.int 2), .val .null, .unset] [])) _
    refine XS.iloadN X172.here hx rfl (hB d18_4) rfl ?_
    refine XS.ifYes X172.here hx rfl (pc0 := 5) (pc' := 27) rfl (hB d18_5) rfl ((if0 _ _).trans (feq (by decide : ¬ ((2 : Int32) = (0 : Int32)))).2) (by decide) (by decide) ?_
    refine st173 _ ?_
    show Steps _ _ _ (T173.setTop (mkF m 30 #[.val (.ref a1), .val (.ref b), .val (.int 0), .val (.int 2), .val .null, .unset] [.int G1])) _
    refine XS.ifNo X173.here hx rfl (hB d18_30) rfl ((if0 _ _).trans (feq (P_cs : ¬ (G1 = (0 : Int32)))).1) ?_
    refine XS.aloadN X173.here hx rfl (hB d18_33) rfl rfl ?_
    refine XS.iloadN X173.here hx rfl (hB d18_34) rfl ?_
    refine XS.iloadN X173.here hx rfl (hB d18_35) rfl ?_
    refine st174 _ ?_
    show Steps _ _ _ (T174.setTop (mkF m 39 #[.val (.ref a1), .val (.ref b), .val (.int 0), .val (.int 2), .val .null, .unset] [.ref b_174])) _
    refine XS.astore X174.here hx rfl (hB d18_39) rfl rfl (l' := #[.val (.ref a1), .val (.ref b), .val (.int 0), .val (.int 2), .val .null, .val (.ref b_174)]) rfl ?_
    refine XS.aloadN X174.here hx rfl (hB d18_41) rfl rfl ?_
    refine XS.aload X174.here hx rfl (hB d18_42) rfl rfl ?_
    refine XS.iloadN X174.here hx rfl (hB d18_44) rfl ?_
    refine st176 _ ?_
    show Steps _ _ _ (T176.setTop (mkF m 48 #[.val (.ref a1), .val (.ref b), .val (.int 0), .val (.int 2), .val .null, .val (.ref b_174)] [.int 1, .ref a1])) _
    refine st179 _ ?_
    show Steps _ _ _ (T179.setTop (mkF m 51 #[.val (.ref a1), .val (.ref b), .val (.int 0), .val (.int 2), .val .null, .val (.ref b_174)] [])) _
    refine XS.aloadN X179.here hx rfl (hB d18_51) rfl rfl ?_
    refine XS.aload X179.here hx rfl (hB d18_52) rfl rfl ?_
    refine st183 _ ?_
    show Steps _ _ _ (T183.setTop (mkF m 57 #[.val (.ref a1), .val (.ref b), .val (.int 0), .val (.int 2), .val .null, .val (.ref b_174)] [])) _
    exact X183.returnOut hx Bd.returns (hB d18_57) hr
  · show QviW2 Z G1 fm a1 b ka c0 c1 h0 n0 _ T183.heap _
    rw [e183]
    exact ⟨b_174, kb_174, rfl, N183, K0_184, f185, f186, Fw183, f187⟩
theorem own_all2 {P : Int32 → Prop} {c0 : Int32} {c1 : Int32} (h0 : P c0) (h1 : P c1) : ∀ c ∈ ([c0, c1] : List Int32), P c := by
  intro c hc
  simp only [List.mem_cons, List.not_mem_nil, or_false] at hc
  rcases hc with rfl | rfl <;> assumption
def Qini2 (Z : State) (G1 : Int32) (fm : Value) (a1 : Addr) (b : Addr) (ka : ClassId) (c0 : Int32) (c1 : Int32) (h0 : Heap) (n0 : Nat) (v : Option Value) (h : Heap) (L : List Loc) : Prop := ∃ t : Addr, ∃ kb : ClassId, ∃ cd : Int32, ∃ z : Int32, ∃ vs : List Value, v = none ∧ Fr n0 L ∧ Keep h0 h [a1] ∧ Exa Z h a1 "java/lang/String" ∧ Fld Z h a1 "java/lang/String" "coder" "B" (.int cd) ∧ Fld Z h a1 "java/lang/String" "value" "[B" (.ref t) ∧ Arv Z h t kb .byte z vs (.int 0) ∧ own_str cd z vs [c0, c1]
theorem rmini2_L (l : Launch) (Z : State) (a0 : Array Value) (G1 : Int32) (fm : Value) (hG : Glob Z a0 G1 fm) (ws : List Jvm.Cond) (a1 : Addr) (b : Addr) (ka : ClassId) (c0 : Int32) (c1 : Int32) (h0 : Heap) (n0 : Nat) (Z0 : n0 ≤ h0.size) (X00 : Old Z n0 h0) (E_a1 : Exa Z h0 a1 "java/lang/String") (g_a1 : n0 ≤ a1) (F_value_a1 : Fld Z h0 a1 "java/lang/String" "value" "[B" .null) (F_coder_a1 : Fld Z h0 a1 "java/lang/String" "coder" "B" (.int 0)) (V_b : Arv Z h0 b ka .char (2 : Int32) [.int c0, .int c1] (.int 0)) (ne_b_a1 : b ≠ a1) (hl0 : ¬ ((255 : Int32) < c0)) (hl1 : ¬ ((255 : Int32) < c1)) :
    Met l Z h0 y19 jdk_42_method_3_code 2 none ws (Room.mk 5 2 6 74) #[.ref a1, .ref b] (Qini2 Z G1 fm a1 b ka c0 c1 h0 n0) := by
  obtain ⟨hw, O_cs, P_cs, O_as, O_hi, O_lo, O_fm, R_fm⟩ := id hG
  have W := @own_W _ _ hw
  refine own_go "java/lang/String" rfl (plainFor_of_name pn_java_lang_String) ?_
  intro p e s m below meth c s₁ Bd hx hby hml hown hnm X0 e0 hZ
  have hB := @hb _ _ hby
  have N0 := Fr.nil n0
  obtain ⟨clq168, Arq168, qaq168, Sq168, Nq168, Hq168, Gq168⟩ := id V_b
  -- pc 6: java/lang/String.<init>
  obtain ⟨_, _, ⟨T169, L169, k169, n169⟩, -, X169, ⟨Lc169, hQ169, l169, y169, z169⟩, st169⟩ := X0.specialBack hx (y := y18) rfl hown (mvT hZ (W 8 rfl)) (mvT hZ (W 9 rfl)) (mvT hZ (W 11 rfl)) (by decide) (backOf (W := 0) (rmviL2 l Z a0 G1 fm hG [] a1 b ka c0 c1 h0 n0 Z0 X00 E_a1 g_a1 F_value_a1 F_coder_a1 V_b ne_b_a1 (by first | assumption | decide | rfl) (by first | assumption | decide | rfl)) hZ (W 11 rfl) (W 4 rfl) (by decide) (by decide)) (g := (mkF m 6 #[.val (.ref a1), .val (.ref b)] [.null, .int 2, .int 0, .ref b, .ref a1])) rfl (by rw [hml]; rfl) (Steps.refl _) (a := a1) (argsL := [.ref b, .int 0, .int 2, .null]) (rest := []) (lenOf pd___CIILjava_lang_Void__V rfl) rfl (by show 2 * 0 + _ ≤ _; exact Nat.le_of_eq rfl) (hB d19_6) (fun _ _ => ⟨rfl, e0, (by decide : 0 + 1 ≤ _), (by decide : 0 + 2 ≤ _)⟩)
  dsimp only [Pt.U, Pt.locs, Pt.cells, Pt.slots] at X169 l169 y169 z169 st169 hQ169
  subst l169 y169 z169
  obtain ⟨t_169, kb_169, rfl, N169q, K169, f169_0, f169_1, f169_2, f169_3⟩ := hQ169
  have N169 := Fr.app N0 N169q
  have Z170 : n0 ≤ T169.heap.size := Nat.le_trans Z0 K169.1
  have K0_170 : Keep h0 T169.heap [a1] := (Keep.refl h0 [a1]).trans K169 (allS (Or.inl (List.mem_of_getElem? (i := 0) rfl)) all0)
  have O170 : Old Z n0 T169.heap := X00.keep K169 (allS g_a1 all0)
  obtain ⟨fs, hr, hrun, hended, hW, hsame⟩ := X169.leave (v := none) (fun _ => rfl)
  refine ⟨_, _, castTop (ef_jdk_42_method_3_code_RR m a1 b) ?_, hrun, hended, _, _, rfl, ?_, ⟨_, rfl⟩, hW, hsame.mono (own_ble rfl) (own_ble rfl)⟩
  · show Steps _ _ _ (s₁.setTop (mkF m 0 #[.val (.ref a1), .val (.ref b)] [])) _
    refine XS.aloadN X0.here hx rfl (hB d19_0) rfl rfl ?_
    refine XS.aloadN X0.here hx rfl (hB d19_1) rfl rfl ?_
    refine XS.iconst X0.here hx rfl (hB d19_2) ?_
    refine XS.aloadN X0.here hx rfl (hB d19_3) rfl rfl ?_
    refine X0.arraylength hx (own_cell e0 Arq168.1) (State.isArrayOf_alike hZ.alike Arq168.2.1) (g := (mkF m 4 #[.val (.ref a1), .val (.ref b)] [.ref b, .int 0, .ref b, .ref a1])) rfl rfl (hB d19_4) _ ?_
    rw [len_of Sq168 Nq168]
    refine XS.aconstNull X0.here hx rfl (hB d19_5) ?_
    refine st169.trans ?_
    show Steps _ _ _ (T169.setTop (mkF m 9 #[.val (.ref a1), .val (.ref b)] [])) _
    exact X169.returnOut hx Bd.returns (hB d19_9) hr
  · show Qini2 Z G1 fm a1 b ka c0 c1 h0 n0 _ T169.heap _
    exact ⟨t_169, kb_169, (0 : Int32), (2 : Int32), _, rfl, N169, K0_170, f169_0, f169_1, f169_2, f169_3, Or.inl ⟨rfl, rfl, rfl, own_all2 hl0 hl1⟩⟩
theorem rmini2_W (l : Launch) (Z : State) (a0 : Array Value) (G1 : Int32) (fm : Value) (hG : Glob Z a0 G1 fm) (ws : List Jvm.Cond) (a1 : Addr) (b : Addr) (ka : ClassId) (c0 : Int32) (c1 : Int32) (h0 : Heap) (n0 : Nat) (Z0 : n0 ≤ h0.size) (X00 : Old Z n0 h0) (E_a1 : Exa Z h0 a1 "java/lang/String") (g_a1 : n0 ≤ a1) (F_value_a1 : Fld Z h0 a1 "java/lang/String" "value" "[B" .null) (F_coder_a1 : Fld Z h0 a1 "java/lang/String" "coder" "B" (.int 0)) (V_b : Arv Z h0 b ka .char (2 : Int32) [.int c0, .int c1] (.int 0)) (ne_b_a1 : b ≠ a1) (hwid : ¬ (¬ ((255 : Int32) < c0) ∧ ¬ ((255 : Int32) < c1))) (hu : ∀ c ∈ ([c0, c1] : List Int32), own_u16 c) :
    Met l Z h0 y19 jdk_42_method_3_code 2 none ws (Room.mk 5 2 6 74) #[.ref a1, .ref b] (Qini2 Z G1 fm a1 b ka c0 c1 h0 n0) := by
  obtain ⟨hw, O_cs, P_cs, O_as, O_hi, O_lo, O_fm, R_fm⟩ := id hG
  have W := @own_W _ _ hw
  refine own_go "java/lang/String" rfl (plainFor_of_name pn_java_lang_String) ?_
  intro p e s m below meth c s₁ Bd hx hby hml hown hnm X0 e0 hZ
  have hB := @hb _ _ hby
  have N0 := Fr.nil n0
  obtain ⟨clq188, Arq188, qaq188, Sq188, Nq188, Hq188, Gq188⟩ := id V_b
  -- pc 6: java/lang/String.<init>
  obtain ⟨_, _, ⟨T189, L189, k189, n189⟩, -, X189, ⟨Lc189, hQ189, l189, y189, z189⟩, st189⟩ := X0.specialBack hx (y := y18) rfl hown (mvT hZ (W 8 rfl)) (mvT hZ (W 9 rfl)) (mvT hZ (W 11 rfl)) (by decide) (backOf (W := 0) (rmviW2 l Z a0 G1 fm hG [] a1 b ka c0 c1 h0 n0 Z0 X00 E_a1 g_a1 F_value_a1 F_coder_a1 V_b ne_b_a1 (by first | assumption | decide | rfl) (by first | assumption | decide | rfl)) hZ (W 11 rfl) (W 4 rfl) (by decide) (by decide)) (g := (mkF m 6 #[.val (.ref a1), .val (.ref b)] [.null, .int 2, .int 0, .ref b, .ref a1])) rfl (by rw [hml]; rfl) (Steps.refl _) (a := a1) (argsL := [.ref b, .int 0, .int 2, .null]) (rest := []) (lenOf pd___CIILjava_lang_Void__V rfl) rfl (by show 2 * 0 + _ ≤ _; exact Nat.le_of_eq rfl) (hB d19_6) (fun _ _ => ⟨rfl, e0, (by decide : 0 + 2 ≤ _), (by decide : 0 + 6 ≤ _)⟩)
  dsimp only [Pt.U, Pt.locs, Pt.cells, Pt.slots] at X189 l189 y189 z189 st189 hQ189
  subst l189 y189 z189
  obtain ⟨t_189, kb_189, rfl, N189q, K189, f189_0, f189_1, f189_2, f189_3⟩ := hQ189
  have N189 := Fr.app N0 N189q
  have Z190 : n0 ≤ T189.heap.size := Nat.le_trans Z0 K189.1
  have K0_190 : Keep h0 T189.heap [a1] := (Keep.refl h0 [a1]).trans K189 (allS (Or.inl (List.mem_of_getElem? (i := 0) rfl)) all0)
  have O190 : Old Z n0 T189.heap := X00.keep K189 (allS g_a1 all0)
  obtain ⟨fs, hr, hrun, hended, hW, hsame⟩ := X189.leave (v := none) (fun _ => rfl)
  refine ⟨_, _, castTop (ef_jdk_42_method_3_code_RR m a1 b) ?_, hrun, hended, _, _, rfl, ?_, ⟨_, rfl⟩, hW, hsame.mono (own_ble rfl) (own_ble rfl)⟩
  · show Steps _ _ _ (s₁.setTop (mkF m 0 #[.val (.ref a1), .val (.ref b)] [])) _
    refine XS.aloadN X0.here hx rfl (hB d19_0) rfl rfl ?_
    refine XS.aloadN X0.here hx rfl (hB d19_1) rfl rfl ?_
    refine XS.iconst X0.here hx rfl (hB d19_2) ?_
    refine XS.aloadN X0.here hx rfl (hB d19_3) rfl rfl ?_
    refine X0.arraylength hx (own_cell e0 Arq188.1) (State.isArrayOf_alike hZ.alike Arq188.2.1) (g := (mkF m 4 #[.val (.ref a1), .val (.ref b)] [.ref b, .int 0, .ref b, .ref a1])) rfl rfl (hB d19_4) _ ?_
    rw [len_of Sq188 Nq188]
    refine XS.aconstNull X0.here hx rfl (hB d19_5) ?_
    refine st189.trans ?_
    show Steps _ _ _ (T189.setTop (mkF m 9 #[.val (.ref a1), .val (.ref b)] [])) _
    exact X189.returnOut hx Bd.returns (hB d19_9) hr
  · show Qini2 Z G1 fm a1 b ka c0 c1 h0 n0 _ T189.heap _
    exact ⟨t_189, kb_189, (1 : Int32), (4 : Int32), _, rfl, N189, K0_190, f189_0, f189_1, f189_2, f189_3, Or.inr ⟨rfl, rfl, rfl⟩⟩
theorem rmini2 (l : Launch) (Z : State) (a0 : Array Value) (G1 : Int32) (fm : Value) (hG : Glob Z a0 G1 fm) (ws : List Jvm.Cond) (a1 : Addr) (b : Addr) (ka : ClassId) (c0 : Int32) (c1 : Int32) (h0 : Heap) (n0 : Nat) (Z0 : n0 ≤ h0.size) (X00 : Old Z n0 h0) (E_a1 : Exa Z h0 a1 "java/lang/String") (g_a1 : n0 ≤ a1) (F_value_a1 : Fld Z h0 a1 "java/lang/String" "value" "[B" .null) (F_coder_a1 : Fld Z h0 a1 "java/lang/String" "coder" "B" (.int 0)) (V_b : Arv Z h0 b ka .char (2 : Int32) [.int c0, .int c1] (.int 0)) (ne_b_a1 : b ≠ a1) (hu : ∀ c ∈ ([c0, c1] : List Int32), own_u16 c) :
    Met l Z h0 y19 jdk_42_method_3_code 2 none ws (Room.mk 5 2 6 74) #[.ref a1, .ref b] (Qini2 Z G1 fm a1 b ka c0 c1 h0 n0) := by
  by_cases hwid : (¬ ((255 : Int32) < c0) ∧ ¬ ((255 : Int32) < c1))
  · obtain ⟨hl0, hl1⟩ := hwid
    exact rmini2_L l Z a0 G1 fm hG ws a1 b ka c0 c1 h0 n0 Z0 X00 E_a1 g_a1 F_value_a1 F_coder_a1 V_b ne_b_a1 hl0 hl1
  · exact rmini2_W l Z a0 G1 fm hG ws a1 b ka c0 c1 h0 n0 Z0 X00 E_a1 g_a1 F_value_a1 F_coder_a1 V_b ne_b_a1 hwid hu
def Qc5L3 (Z : State) (G1 : Int32) (fm : Value) (a1 : Addr) (a2 : Addr) (ka : ClassId) (kb : ClassId) (c0 : Int32) (c1 : Int32) (c2 : Int32) (h0 : Heap) (n0 : Nat) (v : Option Value) (h : Heap) (L : List Loc) : Prop := v = some (.int 3) ∧ Fr n0 L ∧ Keep h0 h [a2] ∧ Arv Z h a2 kb .byte (3 : Int32) [(.int ((c0.toInt8.toInt32).toInt8.toInt32)), (.int ((c1.toInt8.toInt32).toInt8.toInt32)), (.int ((c2.toInt8.toInt32).toInt8.toInt32))] (.int 0)
theorem rmc5L3 (l : Launch) (Z : State) (a0 : Array Value) (G1 : Int32) (fm : Value) (hG : Glob Z a0 G1 fm) (ws : List Jvm.Cond) (a1 : Addr) (a2 : Addr) (ka : ClassId) (kb : ClassId) (c0 : Int32) (c1 : Int32) (c2 : Int32) (h0 : Heap) (n0 : Nat) (Z0 : n0 ≤ h0.size) (X00 : Old Z n0 h0) (V_a1 : Arv Z h0 a1 ka .char (3 : Int32) [.int c0, .int c1, .int c2] (.int 0)) (V_a2 : Arv Z h0 a2 kb .byte (3 : Int32) [.int 0, .int 0, .int 0] (.int 0)) (g_a2 : n0 ≤ a2) (ne_a1_a2 : a1 ≠ a2) (hl0 : ¬ ((255 : Int32) < c0)) (hl1 : ¬ ((255 : Int32) < c1)) (hl2 : ¬ ((255 : Int32) < c2)) :
    Met l Z h0 y12 jdk_52_method_21_code 7 (some .int) ws (Room.mk 0 0 0 0) #[.ref a1, .int 0, .ref a2, .int 0, .int 3] (Qc5L3 Z G1 fm a1 a2 ka kb c0 c1 c2 h0 n0) := by
  obtain ⟨hw, O_cs, P_cs, O_as, O_hi, O_lo, O_fm, R_fm⟩ := id hG
  have W := @own_W _ _ hw
  refine own_go "java/lang/StringUTF16" rfl (plainFor_of_name pn_java_lang_StringUTF16) ?_
  intro p e s m below meth c s₁ Bd hx hby hml hown hnm X0 e0 hZ
  have hB := @hb _ _ hby
  have N0 := Fr.nil n0
  obtain ⟨clq191, Arq191, qaq191, Sq191, Nq191, Hq191, Gq191⟩ := id V_a1
  have hinq191 := inb_of (j := (0 : Int32)) Sq191 ⟨by decide, by decide⟩
  have hatq191 := Has.at (v := (.int c0)) Hq191 hinq191 rfl
  obtain ⟨clq192, Arq192, qaq192, Sq192, Nq192, Hq192, Gq192⟩ := id V_a2
  have hinq192 := inb_of (j := (0 : Int32)) Sq192 ⟨by decide, by decide⟩
  obtain ⟨T193, h193, X193, e193, W193, st193⟩ := stB X0 hx hZ e0 Arq192 (j := (0 : Int32)) hinq192 (g := (mkF m 31 #[.val (.ref a1), .val (.int 0), .val (.ref a2), .val (.int 0), .val (.int 3), .val (.int 0), .val (.int c0)] [(.int (c0.toInt8.toInt32)), .int 0, .ref a2])) rfl rfl (hB d12_31)
  have V193 : Arv Z h193 a2 kb .byte (3 : Int32) [(.int ((c0.toInt8.toInt32).toInt8.toInt32)), .int 0, .int 0] (.int 0) := Arv.set Arq192 qaq192 Sq192 Nq192 Hq192 Gq192 (fits_nar_byte _) W193 0 rfl (own_ble rfl)
  have Z194 : n0 ≤ h193.size := Nat.le_trans Z0 (Keep.of_wr W193).1
  have K0_194 : Keep h0 h193 [a2] := (Keep.refl h0 [a2]).wr W193 (Or.inl (List.mem_of_getElem? (i := 0) rfl))
  have O194 : Old Z n0 h193 := X00.wr W193 g_a2
  have N193 := Fr.snoc X193 N0 g_a2
  have f195 := (V_a1.other W193 ne_a1_a2)
  obtain ⟨clq196, Arq196, qaq196, Sq196, Nq196, Hq196, Gq196⟩ := id f195
  have hinq196 := inb_of (j := (1 : Int32)) Sq196 ⟨by decide, by decide⟩
  have hatq196 := Has.at (v := (.int c1)) Hq196 hinq196 rfl
  obtain ⟨clq197, Arq197, qaq197, Sq197, Nq197, Hq197, Gq197⟩ := id V193
  have hinq197 := inb_of (j := (1 : Int32)) Sq197 ⟨by decide, by decide⟩
  obtain ⟨T198, h198, X198, e198, W198, st198⟩ := stB X193 hx hZ e193 Arq197 (j := (1 : Int32)) hinq197 (g := (mkF m 31 #[.val (.ref a1), .val (.int 1), .val (.ref a2), .val (.int 1), .val (.int 3), .val (.int 1), .val (.int c1)] [(.int (c1.toInt8.toInt32)), .int 1, .ref a2])) rfl rfl (hB d12_31)
  have V198 : Arv Z h198 a2 kb .byte (3 : Int32) [(.int ((c0.toInt8.toInt32).toInt8.toInt32)), (.int ((c1.toInt8.toInt32).toInt8.toInt32)), .int 0] (.int 0) := Arv.set Arq197 qaq197 Sq197 Nq197 Hq197 Gq197 (fits_nar_byte _) W198 1 rfl (own_ble rfl)
  have Z199 : n0 ≤ h198.size := Nat.le_trans Z194 (Keep.of_wr W198).1
  have K0_199 : Keep h0 h198 [a2] := K0_194.wr W198 (Or.inl (List.mem_of_getElem? (i := 0) rfl))
  have O199 : Old Z n0 h198 := O194.wr W198 g_a2
  have N198 := Fr.snoc X198 N193 g_a2
  have f200 := (f195.other W198 ne_a1_a2)
  obtain ⟨clq201, Arq201, qaq201, Sq201, Nq201, Hq201, Gq201⟩ := id f200
  have hinq201 := inb_of (j := (2 : Int32)) Sq201 ⟨by decide, by decide⟩
  have hatq201 := Has.at (v := (.int c2)) Hq201 hinq201 rfl
  obtain ⟨clq202, Arq202, qaq202, Sq202, Nq202, Hq202, Gq202⟩ := id V198
  have hinq202 := inb_of (j := (2 : Int32)) Sq202 ⟨by decide, by decide⟩
  obtain ⟨T203, h203, X203, e203, W203, st203⟩ := stB X198 hx hZ e198 Arq202 (j := (2 : Int32)) hinq202 (g := (mkF m 31 #[.val (.ref a1), .val (.int 2), .val (.ref a2), .val (.int 2), .val (.int 3), .val (.int 2), .val (.int c2)] [(.int (c2.toInt8.toInt32)), .int 2, .ref a2])) rfl rfl (hB d12_31)
  have V203 : Arv Z h203 a2 kb .byte (3 : Int32) [(.int ((c0.toInt8.toInt32).toInt8.toInt32)), (.int ((c1.toInt8.toInt32).toInt8.toInt32)), (.int ((c2.toInt8.toInt32).toInt8.toInt32))] (.int 0) := Arv.set Arq202 qaq202 Sq202 Nq202 Hq202 Gq202 (fits_nar_byte _) W203 2 rfl (own_ble rfl)
  have Z204 : n0 ≤ h203.size := Nat.le_trans Z199 (Keep.of_wr W203).1
  have K0_204 : Keep h0 h203 [a2] := K0_199.wr W203 (Or.inl (List.mem_of_getElem? (i := 0) rfl))
  have O204 : Old Z n0 h203 := O199.wr W203 g_a2
  have N203 := Fr.snoc X203 N198 g_a2
  obtain ⟨fs, hr, hrun, hended, hW, hsame⟩ := X203.leave (v := some (.int 3)) (fun h => by rw [Bd.returns] at h; cases h)
  refine ⟨_, _, castTop (ef_jdk_52_method_21_code_RIRII m a1 (0 : Int32) a2 (0 : Int32) (3 : Int32)) ?_, hrun, hended, _, _, rfl, ?_, ⟨_, rfl⟩, hW, hsame.mono (own_ble rfl) (own_ble rfl)⟩
  · show Steps _ _ _ (s₁.setTop (mkF m 0 #[.val (.ref a1), .val (.int 0), .val (.ref a2), .val (.int 0), .val (.int 3), .unset, .unset] [])) _
    refine XS.iconst X0.here hx rfl (hB d12_0) ?_
    refine XS.istore X0.here hx rfl (hB d12_1) rfl (l' := #[.val (.ref a1), .val (.int 0), .val (.ref a2), .val (.int 0), .val (.int 3), .val (.int 0), .unset]) rfl ?_
    refine XS.iload X0.here hx rfl (hB d12_3) rfl ?_
    refine XS.iload X0.here hx rfl (hB d12_5) rfl ?_
    refine XS.icmpNo X0.here hx rfl (hB d12_7) rfl (tlt (by decide : (0 : Int32) < (3 : Int32))).2.1 ?_
    refine XS.aloadN X0.here hx rfl (hB d12_10) rfl rfl ?_
    refine XS.iloadN X0.here hx rfl (hB d12_11) rfl ?_
    refine X0.caload hx (j := (0 : Int32)) (v := (.int c0)) (own_cell e0 Arq191.1) (State.isArrayOf_alike hZ.alike Arq191.2.1) Arq191.2.2 hinq191 hatq191 (g := (mkF m 12 #[.val (.ref a1), .val (.int 0), .val (.ref a2), .val (.int 0), .val (.int 3), .val (.int 0), .unset] [.int 0, .ref a1])) rfl rfl (hB d12_12) _ ?_
    refine XS.istore X0.here hx rfl (hB d12_13) rfl (l' := #[.val (.ref a1), .val (.int 0), .val (.ref a2), .val (.int 0), .val (.int 3), .val (.int 0), .val (.int c0)]) rfl ?_
    refine XS.iload X0.here hx rfl (hB d12_15) rfl ?_
    refine XS.sipush X0.here hx rfl (hB d12_17) ?_
    refine XS.icmpYes X0.here hx rfl (pc0 := 20) (pc' := 26) rfl (hB d12_20) rfl (flt (hl0 : ¬ ((255 : Int32) < c0))).2.2.2 (by decide) (by decide) ?_
    refine XS.aloadN X0.here hx rfl (hB d12_26) rfl rfl ?_
    refine XS.iloadN X0.here hx rfl (hB d12_27) rfl ?_
    refine XS.iload X0.here hx rfl (hB d12_28) rfl ?_
    refine XS.i2b X0.here hx rfl (hB d12_30) rfl ?_
    show Steps _ _ _ (s₁.setTop (mkF m 31 #[.val (.ref a1), .val (.int 0), .val (.ref a2), .val (.int 0), .val (.int 3), .val (.int 0), .val (.int c0)] [(.int (c0.toInt8.toInt32)), .int 0, .ref a2])) _
    refine st193 _ ?_
    show Steps _ _ _ (T193.setTop (mkF m 32 #[.val (.ref a1), .val (.int 0), .val (.ref a2), .val (.int 0), .val (.int 3), .val (.int 0), .val (.int c0)] [])) _
    refine XS.iinc X193.here hx rfl (hB d12_32) rfl (l' := #[.val (.ref a1), .val (.int 1), .val (.ref a2), .val (.int 0), .val (.int 3), .val (.int 0), .val (.int c0)]) rfl ?_
    refine XS.iinc X193.here hx rfl (hB d12_35) rfl (l' := #[.val (.ref a1), .val (.int 1), .val (.ref a2), .val (.int 1), .val (.int 3), .val (.int 0), .val (.int c0)]) rfl ?_
    refine XS.iinc X193.here hx rfl (hB d12_38) rfl (l' := #[.val (.ref a1), .val (.int 1), .val (.ref a2), .val (.int 1), .val (.int 3), .val (.int 1), .val (.int c0)]) rfl ?_
    refine XS.goto X193.here hx rfl (pc0 := 41) (pc' := 3) rfl (hB d12_41) (by decide) (by decide) ?_
    refine XS.iload X193.here hx rfl (hB d12_3) rfl ?_
    refine XS.iload X193.here hx rfl (hB d12_5) rfl ?_
    refine XS.icmpNo X193.here hx rfl (hB d12_7) rfl (tlt (by decide : (1 : Int32) < (3 : Int32))).2.1 ?_
    refine XS.aloadN X193.here hx rfl (hB d12_10) rfl rfl ?_
    refine XS.iloadN X193.here hx rfl (hB d12_11) rfl ?_
    refine X193.caload hx (j := (1 : Int32)) (v := (.int c1)) (own_cell e193 Arq196.1) (State.isArrayOf_alike hZ.alike Arq196.2.1) Arq196.2.2 hinq196 hatq196 (g := (mkF m 12 #[.val (.ref a1), .val (.int 1), .val (.ref a2), .val (.int 1), .val (.int 3), .val (.int 1), .val (.int c0)] [.int 1, .ref a1])) rfl rfl (hB d12_12) _ ?_
    refine XS.istore X193.here hx rfl (hB d12_13) rfl (l' := #[.val (.ref a1), .val (.int 1), .val (.ref a2), .val (.int 1), .val (.int 3), .val (.int 1), .val (.int c1)]) rfl ?_
    refine XS.iload X193.here hx rfl (hB d12_15) rfl ?_
    refine XS.sipush X193.here hx rfl (hB d12_17) ?_
    refine XS.icmpYes X193.here hx rfl (pc0 := 20) (pc' := 26) rfl (hB d12_20) rfl (flt (hl1 : ¬ ((255 : Int32) < c1))).2.2.2 (by decide) (by decide) ?_
    refine XS.aloadN X193.here hx rfl (hB d12_26) rfl rfl ?_
    refine XS.iloadN X193.here hx rfl (hB d12_27) rfl ?_
    show Steps _ _ _ (T193.setTop (mkF m 28 #[.val (.ref a1), .val (.int 1), .val (.ref a2), .val (.int 1), .val (.int 3), .val (.int 1), .val (.int c1)] [.int 1, .ref a2])) _
    refine XS.iload X193.here hx rfl (hB d12_28) rfl ?_
    refine XS.i2b X193.here hx rfl (hB d12_30) rfl ?_
    refine st198 _ ?_
    show Steps _ _ _ (T198.setTop (mkF m 32 #[.val (.ref a1), .val (.int 1), .val (.ref a2), .val (.int 1), .val (.int 3), .val (.int 1), .val (.int c1)] [])) _
    refine XS.iinc X198.here hx rfl (hB d12_32) rfl (l' := #[.val (.ref a1), .val (.int 2), .val (.ref a2), .val (.int 1), .val (.int 3), .val (.int 1), .val (.int c1)]) rfl ?_
    refine XS.iinc X198.here hx rfl (hB d12_35) rfl (l' := #[.val (.ref a1), .val (.int 2), .val (.ref a2), .val (.int 2), .val (.int 3), .val (.int 1), .val (.int c1)]) rfl ?_
    refine XS.iinc X198.here hx rfl (hB d12_38) rfl (l' := #[.val (.ref a1), .val (.int 2), .val (.ref a2), .val (.int 2), .val (.int 3), .val (.int 2), .val (.int c1)]) rfl ?_
    refine XS.goto X198.here hx rfl (pc0 := 41) (pc' := 3) rfl (hB d12_41) (by decide) (by decide) ?_
    refine XS.iload X198.here hx rfl (hB d12_3) rfl ?_
    refine XS.iload X198.here hx rfl (hB d12_5) rfl ?_
    refine XS.icmpNo X198.here hx rfl (hB d12_7) rfl (tlt (by decide : (2 : Int32) < (3 : Int32))).2.1 ?_
    refine XS.aloadN X198.here hx rfl (hB d12_10) rfl rfl ?_
    refine XS.iloadN X198.here hx rfl (hB d12_11) rfl ?_
    refine X198.caload hx (j := (2 : Int32)) (v := (.int c2)) (own_cell e198 Arq201.1) (State.isArrayOf_alike hZ.alike Arq201.2.1) Arq201.2.2 hinq201 hatq201 (g := (mkF m 12 #[.val (.ref a1), .val (.int 2), .val (.ref a2), .val (.int 2), .val (.int 3), .val (.int 2), .val (.int c1)] [.int 2, .ref a1])) rfl rfl (hB d12_12) _ ?_
    refine XS.istore X198.here hx rfl (hB d12_13) rfl (l' := #[.val (.ref a1), .val (.int 2), .val (.ref a2), .val (.int 2), .val (.int 3), .val (.int 2), .val (.int c2)]) rfl ?_
    refine XS.iload X198.here hx rfl (hB d12_15) rfl ?_
    refine XS.sipush X198.here hx rfl (hB d12_17) ?_
    refine XS.icmpYes X198.here hx rfl (pc0 := 20) (pc' := 26) rfl (hB d12_20) rfl (flt (hl2 : ¬ ((255 : Int32) < c2))).2.2.2 (by decide) (by decide) ?_
    refine XS.aloadN X198.here hx rfl (hB d12_26) rfl rfl ?_
    refine XS.iloadN X198.here hx rfl (hB d12_27) rfl ?_
    show Steps _ _ _ (T198.setTop (mkF m 28 #[.val (.ref a1), .val (.int 2), .val (.ref a2), .val (.int 2), .val (.int 3), .val (.int 2), .val (.int c2)] [.int 2, .ref a2])) _
    refine XS.iload X198.here hx rfl (hB d12_28) rfl ?_
    refine XS.i2b X198.here hx rfl (hB d12_30) rfl ?_
    refine st203 _ ?_
    show Steps _ _ _ (T203.setTop (mkF m 32 #[.val (.ref a1), .val (.int 2), .val (.ref a2), .val (.int 2), .val (.int 3), .val (.int 2), .val (.int c2)] [])) _
    refine XS.iinc X203.here hx rfl (hB d12_32) rfl (l' := #[.val (.ref a1), .val (.int 3), .val (.ref a2), .val (.int 2), .val (.int 3), .val (.int 2), .val (.int c2)]) rfl ?_
    refine XS.iinc X203.here hx rfl (hB d12_35) rfl (l' := #[.val (.ref a1), .val (.int 3), .val (.ref a2), .val (.int 3), .val (.int 3), .val (.int 2), .val (.int c2)]) rfl ?_
    refine XS.iinc X203.here hx rfl (hB d12_38) rfl (l' := #[.val (.ref a1), .val (.int 3), .val (.ref a2), .val (.int 3), .val (.int 3), .val (.int 3), .val (.int c2)]) rfl ?_
    refine XS.goto X203.here hx rfl (pc0 := 41) (pc' := 3) rfl (hB d12_41) (by decide) (by decide) ?_
    refine XS.iload X203.here hx rfl (hB d12_3) rfl ?_
    refine XS.iload X203.here hx rfl (hB d12_5) rfl ?_
    refine XS.icmpYes X203.here hx rfl (pc0 := 7) (pc' := 44) rfl (hB d12_7) rfl (flt (by decide : ¬ ((3 : Int32) < (3 : Int32)))).2.1 (by decide) (by decide) ?_
    refine XS.iload X203.here hx rfl (hB d12_44) rfl ?_
    exact retOut X203 hx Bd.returns rfl (Or.inl ⟨rfl, Or.inl rfl, _, rfl⟩) (hB d12_46) hr
  · show Qc5L3 Z G1 fm a1 a2 ka kb c0 c1 c2 h0 n0 _ T203.heap _
    rw [e203]
    exact ⟨rfl, N203, K0_204, V203⟩
def Qc5W3 (Z : State) (G1 : Int32) (fm : Value) (a1 : Addr) (a2 : Addr) (ka : ClassId) (kb : ClassId) (c0 : Int32) (c1 : Int32) (c2 : Int32) (h0 : Heap) (n0 : Nat) (v : Option Value) (h : Heap) (L : List Loc) : Prop := ∃ j : Int32, v = some (.int j) ∧ Fr n0 L ∧ Keep h0 h [a2] ∧ own_first j [c0, c1, c2]
theorem rmc5W3_0 (l : Launch) (Z : State) (a0 : Array Value) (G1 : Int32) (fm : Value) (hG : Glob Z a0 G1 fm) (ws : List Jvm.Cond) (a1 : Addr) (a2 : Addr) (ka : ClassId) (kb : ClassId) (c0 : Int32) (c1 : Int32) (c2 : Int32) (h0 : Heap) (n0 : Nat) (Z0 : n0 ≤ h0.size) (X00 : Old Z n0 h0) (V_a1 : Arv Z h0 a1 ka .char (3 : Int32) [.int c0, .int c1, .int c2] (.int 0)) (V_a2 : Arv Z h0 a2 kb .byte (3 : Int32) [.int 0, .int 0, .int 0] (.int 0)) (g_a2 : n0 ≤ a2) (ne_a1_a2 : a1 ≠ a2) (hwid : ¬ (¬ ((255 : Int32) < c0) ∧ ¬ ((255 : Int32) < c1) ∧ ¬ ((255 : Int32) < c2))) (hwd : (255 : Int32) < c0) :
    Met l Z h0 y12 jdk_52_method_21_code 7 (some .int) ws (Room.mk 0 0 0 0) #[.ref a1, .int 0, .ref a2, .int 0, .int 3] (Qc5W3 Z G1 fm a1 a2 ka kb c0 c1 c2 h0 n0) := by
  obtain ⟨hw, O_cs, P_cs, O_as, O_hi, O_lo, O_fm, R_fm⟩ := id hG
  have W := @own_W _ _ hw
  refine own_go "java/lang/StringUTF16" rfl (plainFor_of_name pn_java_lang_StringUTF16) ?_
  intro p e s m below meth c s₁ Bd hx hby hml hown hnm X0 e0 hZ
  have hB := @hb _ _ hby
  have N0 := Fr.nil n0
  obtain ⟨clq205, Arq205, qaq205, Sq205, Nq205, Hq205, Gq205⟩ := id V_a1
  have hinq205 := inb_of (j := (0 : Int32)) Sq205 ⟨by decide, by decide⟩
  have hatq205 := Has.at (v := (.int c0)) Hq205 hinq205 rfl
  obtain ⟨fs, hr, hrun, hended, hW, hsame⟩ := X0.leave (v := some (.int 0)) (fun h => by rw [Bd.returns] at h; cases h)
  refine ⟨_, _, castTop (ef_jdk_52_method_21_code_RIRII m a1 (0 : Int32) a2 (0 : Int32) (3 : Int32)) ?_, hrun, hended, _, _, rfl, ?_, ⟨_, rfl⟩, hW, hsame.mono (own_ble rfl) (own_ble rfl)⟩
  · show Steps _ _ _ (s₁.setTop (mkF m 0 #[.val (.ref a1), .val (.int 0), .val (.ref a2), .val (.int 0), .val (.int 3), .unset, .unset] [])) _
    refine XS.iconst X0.here hx rfl (hB d12_0) ?_
    refine XS.istore X0.here hx rfl (hB d12_1) rfl (l' := #[.val (.ref a1), .val (.int 0), .val (.ref a2), .val (.int 0), .val (.int 3), .val (.int 0), .unset]) rfl ?_
    refine XS.iload X0.here hx rfl (hB d12_3) rfl ?_
    refine XS.iload X0.here hx rfl (hB d12_5) rfl ?_
    refine XS.icmpNo X0.here hx rfl (hB d12_7) rfl (tlt (by decide : (0 : Int32) < (3 : Int32))).2.1 ?_
    refine XS.aloadN X0.here hx rfl (hB d12_10) rfl rfl ?_
    refine XS.iloadN X0.here hx rfl (hB d12_11) rfl ?_
    refine X0.caload hx (j := (0 : Int32)) (v := (.int c0)) (own_cell e0 Arq205.1) (State.isArrayOf_alike hZ.alike Arq205.2.1) Arq205.2.2 hinq205 hatq205 (g := (mkF m 12 #[.val (.ref a1), .val (.int 0), .val (.ref a2), .val (.int 0), .val (.int 3), .val (.int 0), .unset] [.int 0, .ref a1])) rfl rfl (hB d12_12) _ ?_
    refine XS.istore X0.here hx rfl (hB d12_13) rfl (l' := #[.val (.ref a1), .val (.int 0), .val (.ref a2), .val (.int 0), .val (.int 3), .val (.int 0), .val (.int c0)]) rfl ?_
    refine XS.iload X0.here hx rfl (hB d12_15) rfl ?_
    refine XS.sipush X0.here hx rfl (hB d12_17) ?_
    refine XS.icmpNo X0.here hx rfl (hB d12_20) rfl (tlt (hwd : (255 : Int32) < c0)).2.2.2 ?_
    refine XS.iload X0.here hx rfl (hB d12_23) rfl ?_
    exact retOut X0 hx Bd.returns rfl (Or.inl ⟨rfl, Or.inl rfl, _, rfl⟩) (hB d12_25) hr
  · show Qc5W3 Z G1 fm a1 a2 ka kb c0 c1 c2 h0 n0 _ s₁.heap _
    rw [e0]
    exact ⟨(0 : Int32), rfl, N0, (Keep.refl h0 [a2]), ⟨0, c0, rfl, rfl, hwd⟩⟩
theorem rmc5W3_1 (l : Launch) (Z : State) (a0 : Array Value) (G1 : Int32) (fm : Value) (hG : Glob Z a0 G1 fm) (ws : List Jvm.Cond) (a1 : Addr) (a2 : Addr) (ka : ClassId) (kb : ClassId) (c0 : Int32) (c1 : Int32) (c2 : Int32) (h0 : Heap) (n0 : Nat) (Z0 : n0 ≤ h0.size) (X00 : Old Z n0 h0) (V_a1 : Arv Z h0 a1 ka .char (3 : Int32) [.int c0, .int c1, .int c2] (.int 0)) (V_a2 : Arv Z h0 a2 kb .byte (3 : Int32) [.int 0, .int 0, .int 0] (.int 0)) (g_a2 : n0 ≤ a2) (ne_a1_a2 : a1 ≠ a2) (hwid : ¬ (¬ ((255 : Int32) < c0) ∧ ¬ ((255 : Int32) < c1) ∧ ¬ ((255 : Int32) < c2))) (hl0 : ¬ ((255 : Int32) < c0)) (hwd : (255 : Int32) < c1) :
    Met l Z h0 y12 jdk_52_method_21_code 7 (some .int) ws (Room.mk 0 0 0 0) #[.ref a1, .int 0, .ref a2, .int 0, .int 3] (Qc5W3 Z G1 fm a1 a2 ka kb c0 c1 c2 h0 n0) := by
  obtain ⟨hw, O_cs, P_cs, O_as, O_hi, O_lo, O_fm, R_fm⟩ := id hG
  have W := @own_W _ _ hw
  refine own_go "java/lang/StringUTF16" rfl (plainFor_of_name pn_java_lang_StringUTF16) ?_
  intro p e s m below meth c s₁ Bd hx hby hml hown hnm X0 e0 hZ
  have hB := @hb _ _ hby
  have N0 := Fr.nil n0
  obtain ⟨clq206, Arq206, qaq206, Sq206, Nq206, Hq206, Gq206⟩ := id V_a1
  have hinq206 := inb_of (j := (0 : Int32)) Sq206 ⟨by decide, by decide⟩
  have hatq206 := Has.at (v := (.int c0)) Hq206 hinq206 rfl
  obtain ⟨clq207, Arq207, qaq207, Sq207, Nq207, Hq207, Gq207⟩ := id V_a2
  have hinq207 := inb_of (j := (0 : Int32)) Sq207 ⟨by decide, by decide⟩
  obtain ⟨T208, h208, X208, e208, W208, st208⟩ := stB X0 hx hZ e0 Arq207 (j := (0 : Int32)) hinq207 (g := (mkF m 31 #[.val (.ref a1), .val (.int 0), .val (.ref a2), .val (.int 0), .val (.int 3), .val (.int 0), .val (.int c0)] [(.int (c0.toInt8.toInt32)), .int 0, .ref a2])) rfl rfl (hB d12_31)
  have V208 : Arv Z h208 a2 kb .byte (3 : Int32) [(.int ((c0.toInt8.toInt32).toInt8.toInt32)), .int 0, .int 0] (.int 0) := Arv.set Arq207 qaq207 Sq207 Nq207 Hq207 Gq207 (fits_nar_byte _) W208 0 rfl (own_ble rfl)
  have Z209 : n0 ≤ h208.size := Nat.le_trans Z0 (Keep.of_wr W208).1
  have K0_209 : Keep h0 h208 [a2] := (Keep.refl h0 [a2]).wr W208 (Or.inl (List.mem_of_getElem? (i := 0) rfl))
  have O209 : Old Z n0 h208 := X00.wr W208 g_a2
  have N208 := Fr.snoc X208 N0 g_a2
  have f210 := (V_a1.other W208 ne_a1_a2)
  obtain ⟨clq211, Arq211, qaq211, Sq211, Nq211, Hq211, Gq211⟩ := id f210
  have hinq211 := inb_of (j := (1 : Int32)) Sq211 ⟨by decide, by decide⟩
  have hatq211 := Has.at (v := (.int c1)) Hq211 hinq211 rfl
  obtain ⟨fs, hr, hrun, hended, hW, hsame⟩ := X208.leave (v := some (.int 1)) (fun h => by rw [Bd.returns] at h; cases h)
  refine ⟨_, _, castTop (ef_jdk_52_method_21_code_RIRII m a1 (0 : Int32) a2 (0 : Int32) (3 : Int32)) ?_, hrun, hended, _, _, rfl, ?_, ⟨_, rfl⟩, hW, hsame.mono (own_ble rfl) (own_ble rfl)⟩
  · show Steps _ _ _ (s₁.setTop (mkF m 0 #[.val (.ref a1), .val (.int 0), .val (.ref a2), .val (.int 0), .val (.int 3), .unset, .unset] [])) _
    refine XS.iconst X0.here hx rfl (hB d12_0) ?_
    refine XS.istore X0.here hx rfl (hB d12_1) rfl (l' := #[.val (.ref a1), .val (.int 0), .val (.ref a2), .val (.int 0), .val (.int 3), .val (.int 0), .unset]) rfl ?_
    refine XS.iload X0.here hx rfl (hB d12_3) rfl ?_
    refine XS.iload X0.here hx rfl (hB d12_5) rfl ?_
    refine XS.icmpNo X0.here hx rfl (hB d12_7) rfl (tlt (by decide : (0 : Int32) < (3 : Int32))).2.1 ?_
    refine XS.aloadN X0.here hx rfl (hB d12_10) rfl rfl ?_
    refine XS.iloadN X0.here hx rfl (hB d12_11) rfl ?_
    refine X0.caload hx (j := (0 : Int32)) (v := (.int c0)) (own_cell e0 Arq206.1) (State.isArrayOf_alike hZ.alike Arq206.2.1) Arq206.2.2 hinq206 hatq206 (g := (mkF m 12 #[.val (.ref a1), .val (.int 0), .val (.ref a2), .val (.int 0), .val (.int 3), .val (.int 0), .unset] [.int 0, .ref a1])) rfl rfl (hB d12_12) _ ?_
    refine XS.istore X0.here hx rfl (hB d12_13) rfl (l' := #[.val (.ref a1), .val (.int 0), .val (.ref a2), .val (.int 0), .val (.int 3), .val (.int 0), .val (.int c0)]) rfl ?_
    refine XS.iload X0.here hx rfl (hB d12_15) rfl ?_
    refine XS.sipush X0.here hx rfl (hB d12_17) ?_
    refine XS.icmpYes X0.here hx rfl (pc0 := 20) (pc' := 26) rfl (hB d12_20) rfl (flt (hl0 : ¬ ((255 : Int32) < c0))).2.2.2 (by decide) (by decide) ?_
    refine XS.aloadN X0.here hx rfl (hB d12_26) rfl rfl ?_
    refine XS.iloadN X0.here hx rfl (hB d12_27) rfl ?_
    refine XS.iload X0.here hx rfl (hB d12_28) rfl ?_
    refine XS.i2b X0.here hx rfl (hB d12_30) rfl ?_
    show Steps _ _ _ (s₁.setTop (mkF m 31 #[.val (.ref a1), .val (.int 0), .val (.ref a2), .val (.int 0), .val (.int 3), .val (.int 0), .val (.int c0)] [(.int (c0.toInt8.toInt32)), .int 0, .ref a2])) _
    refine st208 _ ?_
    show Steps _ _ _ (T208.setTop (mkF m 32 #[.val (.ref a1), .val (.int 0), .val (.ref a2), .val (.int 0), .val (.int 3), .val (.int 0), .val (.int c0)] [])) _
    refine XS.iinc X208.here hx rfl (hB d12_32) rfl (l' := #[.val (.ref a1), .val (.int 1), .val (.ref a2), .val (.int 0), .val (.int 3), .val (.int 0), .val (.int c0)]) rfl ?_
    refine XS.iinc X208.here hx rfl (hB d12_35) rfl (l' := #[.val (.ref a1), .val (.int 1), .val (.ref a2), .val (.int 1), .val (.int 3), .val (.int 0), .val (.int c0)]) rfl ?_
    refine XS.iinc X208.here hx rfl (hB d12_38) rfl (l' := #[.val (.ref a1), .val (.int 1), .val (.ref a2), .val (.int 1), .val (.int 3), .val (.int 1), .val (.int c0)]) rfl ?_
    refine XS.goto X208.here hx rfl (pc0 := 41) (pc' := 3) rfl (hB d12_41) (by decide) (by decide) ?_
    refine XS.iload X208.here hx rfl (hB d12_3) rfl ?_
    refine XS.iload X208.here hx rfl (hB d12_5) rfl ?_
    refine XS.icmpNo X208.here hx rfl (hB d12_7) rfl (tlt (by decide : (1 : Int32) < (3 : Int32))).2.1 ?_
    refine XS.aloadN X208.here hx rfl (hB d12_10) rfl rfl ?_
    refine XS.iloadN X208.here hx rfl (hB d12_11) rfl ?_
    refine X208.caload hx (j := (1 : Int32)) (v := (.int c1)) (own_cell e208 Arq211.1) (State.isArrayOf_alike hZ.alike Arq211.2.1) Arq211.2.2 hinq211 hatq211 (g := (mkF m 12 #[.val (.ref a1), .val (.int 1), .val (.ref a2), .val (.int 1), .val (.int 3), .val (.int 1), .val (.int c0)] [.int 1, .ref a1])) rfl rfl (hB d12_12) _ ?_
    refine XS.istore X208.here hx rfl (hB d12_13) rfl (l' := #[.val (.ref a1), .val (.int 1), .val (.ref a2), .val (.int 1), .val (.int 3), .val (.int 1), .val (.int c1)]) rfl ?_
    refine XS.iload X208.here hx rfl (hB d12_15) rfl ?_
    refine XS.sipush X208.here hx rfl (hB d12_17) ?_
    refine XS.icmpNo X208.here hx rfl (hB d12_20) rfl (tlt (hwd : (255 : Int32) < c1)).2.2.2 ?_
    refine XS.iload X208.here hx rfl (hB d12_23) rfl ?_
    exact retOut X208 hx Bd.returns rfl (Or.inl ⟨rfl, Or.inl rfl, _, rfl⟩) (hB d12_25) hr
  · show Qc5W3 Z G1 fm a1 a2 ka kb c0 c1 c2 h0 n0 _ T208.heap _
    rw [e208]
    exact ⟨(1 : Int32), rfl, N208, K0_209, ⟨1, c1, rfl, rfl, hwd⟩⟩
theorem rmc5W3_2 (l : Launch) (Z : State) (a0 : Array Value) (G1 : Int32) (fm : Value) (hG : Glob Z a0 G1 fm) (ws : List Jvm.Cond) (a1 : Addr) (a2 : Addr) (ka : ClassId) (kb : ClassId) (c0 : Int32) (c1 : Int32) (c2 : Int32) (h0 : Heap) (n0 : Nat) (Z0 : n0 ≤ h0.size) (X00 : Old Z n0 h0) (V_a1 : Arv Z h0 a1 ka .char (3 : Int32) [.int c0, .int c1, .int c2] (.int 0)) (V_a2 : Arv Z h0 a2 kb .byte (3 : Int32) [.int 0, .int 0, .int 0] (.int 0)) (g_a2 : n0 ≤ a2) (ne_a1_a2 : a1 ≠ a2) (hwid : ¬ (¬ ((255 : Int32) < c0) ∧ ¬ ((255 : Int32) < c1) ∧ ¬ ((255 : Int32) < c2))) (hl0 : ¬ ((255 : Int32) < c0)) (hl1 : ¬ ((255 : Int32) < c1)) (hwd : (255 : Int32) < c2) :
    Met l Z h0 y12 jdk_52_method_21_code 7 (some .int) ws (Room.mk 0 0 0 0) #[.ref a1, .int 0, .ref a2, .int 0, .int 3] (Qc5W3 Z G1 fm a1 a2 ka kb c0 c1 c2 h0 n0) := by
  obtain ⟨hw, O_cs, P_cs, O_as, O_hi, O_lo, O_fm, R_fm⟩ := id hG
  have W := @own_W _ _ hw
  refine own_go "java/lang/StringUTF16" rfl (plainFor_of_name pn_java_lang_StringUTF16) ?_
  intro p e s m below meth c s₁ Bd hx hby hml hown hnm X0 e0 hZ
  have hB := @hb _ _ hby
  have N0 := Fr.nil n0
  obtain ⟨clq212, Arq212, qaq212, Sq212, Nq212, Hq212, Gq212⟩ := id V_a1
  have hinq212 := inb_of (j := (0 : Int32)) Sq212 ⟨by decide, by decide⟩
  have hatq212 := Has.at (v := (.int c0)) Hq212 hinq212 rfl
  obtain ⟨clq213, Arq213, qaq213, Sq213, Nq213, Hq213, Gq213⟩ := id V_a2
  have hinq213 := inb_of (j := (0 : Int32)) Sq213 ⟨by decide, by decide⟩
  obtain ⟨T214, h214, X214, e214, W214, st214⟩ := stB X0 hx hZ e0 Arq213 (j := (0 : Int32)) hinq213 (g := (mkF m 31 #[.val (.ref a1), .val (.int 0), .val (.ref a2), .val (.int 0), .val (.int 3), .val (.int 0), .val (.int c0)] [(.int (c0.toInt8.toInt32)), .int 0, .ref a2])) rfl rfl (hB d12_31)
  have V214 : Arv Z h214 a2 kb .byte (3 : Int32) [(.int ((c0.toInt8.toInt32).toInt8.toInt32)), .int 0, .int 0] (.int 0) := Arv.set Arq213 qaq213 Sq213 Nq213 Hq213 Gq213 (fits_nar_byte _) W214 0 rfl (own_ble rfl)
  have Z215 : n0 ≤ h214.size := Nat.le_trans Z0 (Keep.of_wr W214).1
  have K0_215 : Keep h0 h214 [a2] := (Keep.refl h0 [a2]).wr W214 (Or.inl (List.mem_of_getElem? (i := 0) rfl))
  have O215 : Old Z n0 h214 := X00.wr W214 g_a2
  have N214 := Fr.snoc X214 N0 g_a2
  have f216 := (V_a1.other W214 ne_a1_a2)
  obtain ⟨clq217, Arq217, qaq217, Sq217, Nq217, Hq217, Gq217⟩ := id f216
  have hinq217 := inb_of (j := (1 : Int32)) Sq217 ⟨by decide, by decide⟩
  have hatq217 := Has.at (v := (.int c1)) Hq217 hinq217 rfl
  obtain ⟨clq218, Arq218, qaq218, Sq218, Nq218, Hq218, Gq218⟩ := id V214
  have hinq218 := inb_of (j := (1 : Int32)) Sq218 ⟨by decide, by decide⟩
  obtain ⟨T219, h219, X219, e219, W219, st219⟩ := stB X214 hx hZ e214 Arq218 (j := (1 : Int32)) hinq218 (g := (mkF m 31 #[.val (.ref a1), .val (.int 1), .val (.ref a2), .val (.int 1), .val (.int 3), .val (.int 1), .val (.int c1)] [(.int (c1.toInt8.toInt32)), .int 1, .ref a2])) rfl rfl (hB d12_31)
  have V219 : Arv Z h219 a2 kb .byte (3 : Int32) [(.int ((c0.toInt8.toInt32).toInt8.toInt32)), (.int ((c1.toInt8.toInt32).toInt8.toInt32)), .int 0] (.int 0) := Arv.set Arq218 qaq218 Sq218 Nq218 Hq218 Gq218 (fits_nar_byte _) W219 1 rfl (own_ble rfl)
  have Z220 : n0 ≤ h219.size := Nat.le_trans Z215 (Keep.of_wr W219).1
  have K0_220 : Keep h0 h219 [a2] := K0_215.wr W219 (Or.inl (List.mem_of_getElem? (i := 0) rfl))
  have O220 : Old Z n0 h219 := O215.wr W219 g_a2
  have N219 := Fr.snoc X219 N214 g_a2
  have f221 := (f216.other W219 ne_a1_a2)
  obtain ⟨clq222, Arq222, qaq222, Sq222, Nq222, Hq222, Gq222⟩ := id f221
  have hinq222 := inb_of (j := (2 : Int32)) Sq222 ⟨by decide, by decide⟩
  have hatq222 := Has.at (v := (.int c2)) Hq222 hinq222 rfl
  obtain ⟨fs, hr, hrun, hended, hW, hsame⟩ := X219.leave (v := some (.int 2)) (fun h => by rw [Bd.returns] at h; cases h)
  refine ⟨_, _, castTop (ef_jdk_52_method_21_code_RIRII m a1 (0 : Int32) a2 (0 : Int32) (3 : Int32)) ?_, hrun, hended, _, _, rfl, ?_, ⟨_, rfl⟩, hW, hsame.mono (own_ble rfl) (own_ble rfl)⟩
  · show Steps _ _ _ (s₁.setTop (mkF m 0 #[.val (.ref a1), .val (.int 0), .val (.ref a2), .val (.int 0), .val (.int 3), .unset, .unset] [])) _
    refine XS.iconst X0.here hx rfl (hB d12_0) ?_
    refine XS.istore X0.here hx rfl (hB d12_1) rfl (l' := #[.val (.ref a1), .val (.int 0), .val (.ref a2), .val (.int 0), .val (.int 3), .val (.int 0), .unset]) rfl ?_
    refine XS.iload X0.here hx rfl (hB d12_3) rfl ?_
    refine XS.iload X0.here hx rfl (hB d12_5) rfl ?_
    refine XS.icmpNo X0.here hx rfl (hB d12_7) rfl (tlt (by decide : (0 : Int32) < (3 : Int32))).2.1 ?_
    refine XS.aloadN X0.here hx rfl (hB d12_10) rfl rfl ?_
    refine XS.iloadN X0.here hx rfl (hB d12_11) rfl ?_
    refine X0.caload hx (j := (0 : Int32)) (v := (.int c0)) (own_cell e0 Arq212.1) (State.isArrayOf_alike hZ.alike Arq212.2.1) Arq212.2.2 hinq212 hatq212 (g := (mkF m 12 #[.val (.ref a1), .val (.int 0), .val (.ref a2), .val (.int 0), .val (.int 3), .val (.int 0), .unset] [.int 0, .ref a1])) rfl rfl (hB d12_12) _ ?_
    refine XS.istore X0.here hx rfl (hB d12_13) rfl (l' := #[.val (.ref a1), .val (.int 0), .val (.ref a2), .val (.int 0), .val (.int 3), .val (.int 0), .val (.int c0)]) rfl ?_
    refine XS.iload X0.here hx rfl (hB d12_15) rfl ?_
    refine XS.sipush X0.here hx rfl (hB d12_17) ?_
    refine XS.icmpYes X0.here hx rfl (pc0 := 20) (pc' := 26) rfl (hB d12_20) rfl (flt (hl0 : ¬ ((255 : Int32) < c0))).2.2.2 (by decide) (by decide) ?_
    refine XS.aloadN X0.here hx rfl (hB d12_26) rfl rfl ?_
    refine XS.iloadN X0.here hx rfl (hB d12_27) rfl ?_
    refine XS.iload X0.here hx rfl (hB d12_28) rfl ?_
    refine XS.i2b X0.here hx rfl (hB d12_30) rfl ?_
    show Steps _ _ _ (s₁.setTop (mkF m 31 #[.val (.ref a1), .val (.int 0), .val (.ref a2), .val (.int 0), .val (.int 3), .val (.int 0), .val (.int c0)] [(.int (c0.toInt8.toInt32)), .int 0, .ref a2])) _
    refine st214 _ ?_
    show Steps _ _ _ (T214.setTop (mkF m 32 #[.val (.ref a1), .val (.int 0), .val (.ref a2), .val (.int 0), .val (.int 3), .val (.int 0), .val (.int c0)] [])) _
    refine XS.iinc X214.here hx rfl (hB d12_32) rfl (l' := #[.val (.ref a1), .val (.int 1), .val (.ref a2), .val (.int 0), .val (.int 3), .val (.int 0), .val (.int c0)]) rfl ?_
    refine XS.iinc X214.here hx rfl (hB d12_35) rfl (l' := #[.val (.ref a1), .val (.int 1), .val (.ref a2), .val (.int 1), .val (.int 3), .val (.int 0), .val (.int c0)]) rfl ?_
    refine XS.iinc X214.here hx rfl (hB d12_38) rfl (l' := #[.val (.ref a1), .val (.int 1), .val (.ref a2), .val (.int 1), .val (.int 3), .val (.int 1), .val (.int c0)]) rfl ?_
    refine XS.goto X214.here hx rfl (pc0 := 41) (pc' := 3) rfl (hB d12_41) (by decide) (by decide) ?_
    refine XS.iload X214.here hx rfl (hB d12_3) rfl ?_
    refine XS.iload X214.here hx rfl (hB d12_5) rfl ?_
    refine XS.icmpNo X214.here hx rfl (hB d12_7) rfl (tlt (by decide : (1 : Int32) < (3 : Int32))).2.1 ?_
    refine XS.aloadN X214.here hx rfl (hB d12_10) rfl rfl ?_
    refine XS.iloadN X214.here hx rfl (hB d12_11) rfl ?_
    refine X214.caload hx (j := (1 : Int32)) (v := (.int c1)) (own_cell e214 Arq217.1) (State.isArrayOf_alike hZ.alike Arq217.2.1) Arq217.2.2 hinq217 hatq217 (g := (mkF m 12 #[.val (.ref a1), .val (.int 1), .val (.ref a2), .val (.int 1), .val (.int 3), .val (.int 1), .val (.int c0)] [.int 1, .ref a1])) rfl rfl (hB d12_12) _ ?_
    refine XS.istore X214.here hx rfl (hB d12_13) rfl (l' := #[.val (.ref a1), .val (.int 1), .val (.ref a2), .val (.int 1), .val (.int 3), .val (.int 1), .val (.int c1)]) rfl ?_
    refine XS.iload X214.here hx rfl (hB d12_15) rfl ?_
    refine XS.sipush X214.here hx rfl (hB d12_17) ?_
    refine XS.icmpYes X214.here hx rfl (pc0 := 20) (pc' := 26) rfl (hB d12_20) rfl (flt (hl1 : ¬ ((255 : Int32) < c1))).2.2.2 (by decide) (by decide) ?_
    refine XS.aloadN X214.here hx rfl (hB d12_26) rfl rfl ?_
    refine XS.iloadN X214.here hx rfl (hB d12_27) rfl ?_
    show Steps _ _ _ (T214.setTop (mkF m 28 #[.val (.ref a1), .val (.int 1), .val (.ref a2), .val (.int 1), .val (.int 3), .val (.int 1), .val (.int c1)] [.int 1, .ref a2])) _
    refine XS.iload X214.here hx rfl (hB d12_28) rfl ?_
    refine XS.i2b X214.here hx rfl (hB d12_30) rfl ?_
    refine st219 _ ?_
    show Steps _ _ _ (T219.setTop (mkF m 32 #[.val (.ref a1), .val (.int 1), .val (.ref a2), .val (.int 1), .val (.int 3), .val (.int 1), .val (.int c1)] [])) _
    refine XS.iinc X219.here hx rfl (hB d12_32) rfl (l' := #[.val (.ref a1), .val (.int 2), .val (.ref a2), .val (.int 1), .val (.int 3), .val (.int 1), .val (.int c1)]) rfl ?_
    refine XS.iinc X219.here hx rfl (hB d12_35) rfl (l' := #[.val (.ref a1), .val (.int 2), .val (.ref a2), .val (.int 2), .val (.int 3), .val (.int 1), .val (.int c1)]) rfl ?_
    refine XS.iinc X219.here hx rfl (hB d12_38) rfl (l' := #[.val (.ref a1), .val (.int 2), .val (.ref a2), .val (.int 2), .val (.int 3), .val (.int 2), .val (.int c1)]) rfl ?_
    refine XS.goto X219.here hx rfl (pc0 := 41) (pc' := 3) rfl (hB d12_41) (by decide) (by decide) ?_
    refine XS.iload X219.here hx rfl (hB d12_3) rfl ?_
    refine XS.iload X219.here hx rfl (hB d12_5) rfl ?_
    refine XS.icmpNo X219.here hx rfl (hB d12_7) rfl (tlt (by decide : (2 : Int32) < (3 : Int32))).2.1 ?_
    refine XS.aloadN X219.here hx rfl (hB d12_10) rfl rfl ?_
    refine XS.iloadN X219.here hx rfl (hB d12_11) rfl ?_
    refine X219.caload hx (j := (2 : Int32)) (v := (.int c2)) (own_cell e219 Arq222.1) (State.isArrayOf_alike hZ.alike Arq222.2.1) Arq222.2.2 hinq222 hatq222 (g := (mkF m 12 #[.val (.ref a1), .val (.int 2), .val (.ref a2), .val (.int 2), .val (.int 3), .val (.int 2), .val (.int c1)] [.int 2, .ref a1])) rfl rfl (hB d12_12) _ ?_
    refine XS.istore X219.here hx rfl (hB d12_13) rfl (l' := #[.val (.ref a1), .val (.int 2), .val (.ref a2), .val (.int 2), .val (.int 3), .val (.int 2), .val (.int c2)]) rfl ?_
    refine XS.iload X219.here hx rfl (hB d12_15) rfl ?_
    refine XS.sipush X219.here hx rfl (hB d12_17) ?_
    refine XS.icmpNo X219.here hx rfl (hB d12_20) rfl (tlt (hwd : (255 : Int32) < c2)).2.2.2 ?_
    refine XS.iload X219.here hx rfl (hB d12_23) rfl ?_
    exact retOut X219 hx Bd.returns rfl (Or.inl ⟨rfl, Or.inl rfl, _, rfl⟩) (hB d12_25) hr
  · show Qc5W3 Z G1 fm a1 a2 ka kb c0 c1 c2 h0 n0 _ T219.heap _
    rw [e219]
    exact ⟨(2 : Int32), rfl, N219, K0_220, ⟨2, c2, rfl, rfl, hwd⟩⟩
theorem rmc5W3 (l : Launch) (Z : State) (a0 : Array Value) (G1 : Int32) (fm : Value) (hG : Glob Z a0 G1 fm) (ws : List Jvm.Cond) (a1 : Addr) (a2 : Addr) (ka : ClassId) (kb : ClassId) (c0 : Int32) (c1 : Int32) (c2 : Int32) (h0 : Heap) (n0 : Nat) (Z0 : n0 ≤ h0.size) (X00 : Old Z n0 h0) (V_a1 : Arv Z h0 a1 ka .char (3 : Int32) [.int c0, .int c1, .int c2] (.int 0)) (V_a2 : Arv Z h0 a2 kb .byte (3 : Int32) [.int 0, .int 0, .int 0] (.int 0)) (g_a2 : n0 ≤ a2) (ne_a1_a2 : a1 ≠ a2) (hwid : ¬ (¬ ((255 : Int32) < c0) ∧ ¬ ((255 : Int32) < c1) ∧ ¬ ((255 : Int32) < c2))) :
    Met l Z h0 y12 jdk_52_method_21_code 7 (some .int) ws (Room.mk 0 0 0 0) #[.ref a1, .int 0, .ref a2, .int 0, .int 3] (Qc5W3 Z G1 fm a1 a2 ka kb c0 c1 c2 h0 n0) := by
  by_cases q0 : (255 : Int32) < c0
  · exact rmc5W3_0 l Z a0 G1 fm hG ws a1 a2 ka kb c0 c1 c2 h0 n0 Z0 X00 V_a1 V_a2 g_a2 ne_a1_a2 hwid q0
  by_cases q1 : (255 : Int32) < c1
  · exact rmc5W3_1 l Z a0 G1 fm hG ws a1 a2 ka kb c0 c1 c2 h0 n0 Z0 X00 V_a1 V_a2 g_a2 ne_a1_a2 hwid q0 q1
  by_cases q2 : (255 : Int32) < c2
  · exact rmc5W3_2 l Z a0 G1 fm hG ws a1 a2 ka kb c0 c1 c2 h0 n0 Z0 X00 V_a1 V_a2 g_a2 ne_a1_a2 hwid q0 q1 q2
  exact absurd ⟨q0, q1, q2⟩ hwid
def Qnbl3 (Z : State) (G1 : Int32) (fm : Value) (h0 : Heap) (n0 : Nat) (v : Option Value) (h : Heap) (L : List Loc) : Prop := v = some (.int 6) ∧ Fr n0 L ∧ h = h0
theorem rmnbl3 (l : Launch) (Z : State) (a0 : Array Value) (G1 : Int32) (fm : Value) (hG : Glob Z a0 G1 fm) (ws : List Jvm.Cond) (h0 : Heap) (n0 : Nat) (Z0 : n0 ≤ h0.size) (X00 : Old Z n0 h0) :
    Met l Z h0 y13 jdk_52_method_3_code 1 (some .int) ws (Room.mk 0 0 0 0) #[.int 3] (Qnbl3 Z G1 fm h0 n0) := by
  obtain ⟨hw, O_cs, P_cs, O_as, O_hi, O_lo, O_fm, R_fm⟩ := id hG
  have W := @own_W _ _ hw
  refine own_go "java/lang/StringUTF16" rfl (plainFor_of_name pn_java_lang_StringUTF16) ?_
  intro p e s m below meth c s₁ Bd hx hby hml hown hnm X0 e0 hZ
  have hB := @hb _ _ hby
  have N0 := Fr.nil n0
  obtain ⟨fs, hr, hrun, hended, hW, hsame⟩ := X0.leave (v := some (.int 6)) (fun h => by rw [Bd.returns] at h; cases h)
  refine ⟨_, _, castTop (ef_jdk_52_method_3_code_I m (3 : Int32)) ?_, hrun, hended, _, _, rfl, ?_, ⟨_, rfl⟩, hW, hsame.mono (own_ble rfl) (own_ble rfl)⟩
  · show Steps _ _ _ (s₁.setTop (mkF m 0 #[.val (.int 3)] [])) _
    refine XS.iloadN X0.here hx rfl (hB d13_0) rfl ?_
    refine XS.ifYes X0.here hx rfl (pc0 := 1) (pc' := 12) rfl (hB d13_1) rfl ((if0 _ _).trans (flt (by decide : ¬ ((3 : Int32) < (0 : Int32)))).2.1) (by decide) (by decide) ?_
    refine XS.iloadN X0.here hx rfl (hB d13_12) rfl ?_
    refine X0.ldcInt hx hown (mvT hZ (W 93 rfl)) (g := (mkF m 13 #[.val (.int 3)] [.int 3])) rfl (hB d13_13) _ ?_
    refine XS.icmpYes X0.here hx rfl (pc0 := 15) (pc' := 55) rfl (hB d13_15) rfl (tlt (by decide : (3 : Int32) < (1073741823 : Int32))).1 (by decide) (by decide) ?_
    refine XS.iloadN X0.here hx rfl (hB d13_55) rfl ?_
    refine XS.iconst X0.here hx rfl (hB d13_56) ?_
    refine XS.ishl X0.here hx rfl (hB d13_57) rfl ?_
    exact retOut X0 hx Bd.returns rfl (Or.inl ⟨rfl, Or.inl rfl, _, rfl⟩) (hB d13_58) hr
  · show Qnbl3 Z G1 fm h0 n0 _ s₁.heap _
    rw [e0]
    exact ⟨rfl, N0, rfl⟩
def Qnbf3 (Z : State) (G1 : Int32) (fm : Value) (h0 : Heap) (n0 : Nat) (v : Option Value) (h : Heap) (L : List Loc) : Prop := ∃ b : Addr, ∃ kb : ClassId, v = some (.ref b) ∧ Fr n0 L ∧ Keep h0 h [] ∧ h0.size ≤ b ∧ Arv Z h b kb .byte (6 : Int32) [.int 0, .int 0, .int 0, .int 0, .int 0, .int 0] (.int 0)
theorem rmnbf3 (l : Launch) (Z : State) (a0 : Array Value) (G1 : Int32) (fm : Value) (hG : Glob Z a0 G1 fm) (ws : List Jvm.Cond) (h0 : Heap) (n0 : Nat) (Z0 : n0 ≤ h0.size) (X00 : Old Z n0 h0) :
    Met l Z h0 y14 jdk_52_method_2_code 1 (some (.array .byte)) ws (Room.mk 1 1 6 12) #[.int 3] (Qnbf3 Z G1 fm h0 n0) := by
  obtain ⟨hw, O_cs, P_cs, O_as, O_hi, O_lo, O_fm, R_fm⟩ := id hG
  have W := @own_W _ _ hw
  refine own_go "java/lang/StringUTF16" rfl (plainFor_of_name pn_java_lang_StringUTF16) ?_
  intro p e s m below meth c s₁ Bd hx hby hml hown hnm X0 e0 hZ
  have hB := @hb _ _ hby
  have N0 := Fr.nil n0
  -- pc 1: java/lang/StringUTF16.newBytesLength
  obtain ⟨_, _, ⟨T223, L223, k223, n223⟩, -, X223, ⟨Lc223, hQ223, l223, y223, z223⟩, st223⟩ := Jvm.LawKit.callS X0 hx (y := y13) hown (mvT hZ (W 90 rfl)) (mvT hZ (W 91 rfl)) (mvT hZ (W 40 rfl)) (mvT hZ (W 92 rfl)) (by decide) (backOf (W := 0) (rmnbl3 l Z a0 G1 fm hG [] h0 n0 Z0 X00) hZ (W 92 rfl) (W 40 rfl) (by decide) (by decide)) (g := (mkF m 1 #[.val (.int 3)] [.int 3])) rfl (by rw [hml]; rfl) (argsL := [.int 3]) (rest := []) (lenOf pd__I_I rfl) rfl (by show 2 * 0 + _ ≤ _; exact Nat.le_of_eq rfl) (hB d14_1) (fun _ _ => ⟨rfl, e0, (by decide : 0 + 0 ≤ _), (by decide : 0 + 0 ≤ _)⟩)
  dsimp only [Pt.U, Pt.locs, Pt.cells, Pt.slots] at X223 l223 y223 z223 st223 hQ223
  subst l223 y223 z223
  obtain ⟨rfl, N223q, eq223⟩ := hQ223
  have N223 := Fr.app N0 N223q
  obtain ⟨T224, h224, k224, X224, e224, E224, A224, Q224, st224⟩ := newPE X223 hx hZ (W 16 rfl) eq223 (g := (mkF m 4 #[.val (.int 3)] [.int 6])) rfl (hB d14_4) rfl (by decide) (cap := 6) (by decide) (by decide) (by decide) (by decide) (ad := "[B") rfl
  obtain ⟨b224, g224⟩ : ∃ z, z = h0.size := ⟨_, rfl⟩
  rw [← g224] at A224 Q224 st224
  have Z225 : n0 ≤ h224.size := Nat.le_trans Z0 E224.1
  have K0_225 : Keep h0 h224 [] := (Keep.refl h0 []).ext E224
  have O225 : Old Z n0 h224 := X00.ext E224
  have lo_b224 : h0.size ≤ b224 := Nat.le_of_eq g224.symm
  have g_b224 : n0 ≤ b224 := Nat.le_trans Z0 lo_b224
  have l0_b224 : h0.size ≤ b224 := Nat.le_trans (Keep.refl h0 []).1 lo_b224
  have V_b224 : Arv Z h224 b224 k224 .byte (6 : Int32) [.int 0, .int 0, .int 0, .int 0, .int 0, .int 0] (.int 0) := (Arv.new A224 (by decide)).pad (pad_rep [] (.int 0) 6)
  obtain ⟨fs, hr, hrun, hended, hW, hsame⟩ := X224.leave (v := some (.ref b224)) (fun h => by rw [Bd.returns] at h; cases h)
  refine ⟨_, _, castTop (ef_jdk_52_method_2_code_I m (3 : Int32)) ?_, hrun, hended, _, _, rfl, ?_, ⟨_, rfl⟩, hW, hsame.mono (own_ble rfl) (own_ble rfl)⟩
  · show Steps _ _ _ (s₁.setTop (mkF m 0 #[.val (.int 3)] [])) _
    refine XS.iloadN X0.here hx rfl (hB d14_0) rfl ?_
    refine st223 _ ?_
    show Steps _ _ _ (T223.setTop (mkF m 4 #[.val (.int 3)] [.int 6])) _
    refine st224 _ ?_
    show Steps _ _ _ (T224.setTop (mkF m 6 #[.val (.int 3)] [.ref b224])) _
    exact retOut X224 hx Bd.returns rfl (Or.inr (Or.inr (Or.inr (Or.inr ⟨rfl, rfl, rfl⟩)))) (hB d14_6) hr
  · show Qnbf3 Z G1 fm h0 n0 _ T224.heap _
    rw [e224]
    exact ⟨b224, k224, rfl, N223, K0_225, l0_b224, V_b224⟩
def Qtob3 (Z : State) (G1 : Int32) (fm : Value) (a1 : Addr) (ka : ClassId) (c0 : Int32) (c1 : Int32) (c2 : Int32) (h0 : Heap) (n0 : Nat) (v : Option Value) (h : Heap) (L : List Loc) : Prop := ∃ b : Addr, ∃ kb : ClassId, v = some (.ref b) ∧ Fr n0 L ∧ Keep h0 h [] ∧ h0.size ≤ b ∧ Arv Z h b kb .byte (6 : Int32) [(.int (((c0 >>> ((0 : Int32) &&& 31)).toInt8.toInt32).toInt8.toInt32)), (.int (((c0 >>> ((8 : Int32) &&& 31)).toInt8.toInt32).toInt8.toInt32)), (.int (((c1 >>> ((0 : Int32) &&& 31)).toInt8.toInt32).toInt8.toInt32)), (.int (((c1 >>> ((8 : Int32) &&& 31)).toInt8.toInt32).toInt8.toInt32)), (.int (((c2 >>> ((0 : Int32) &&& 31)).toInt8.toInt32).toInt8.toInt32)), (.int (((c2 >>> ((8 : Int32) &&& 31)).toInt8.toInt32).toInt8.toInt32))] (.int 0)
theorem rmtob3 (l : Launch) (Z : State) (a0 : Array Value) (G1 : Int32) (fm : Value) (hG : Glob Z a0 G1 fm) (ws : List Jvm.Cond) (a1 : Addr) (ka : ClassId) (c0 : Int32) (c1 : Int32) (c2 : Int32) (h0 : Heap) (n0 : Nat) (Z0 : n0 ≤ h0.size) (X00 : Old Z n0 h0) (V_a1 : Arv Z h0 a1 ka .char (3 : Int32) [.int c0, .int c1, .int c2] (.int 0)) :
    Met l Z h0 y15 jdk_52_method_14_code 5 (some (.array .byte)) ws (Room.mk 2 1 6 24) #[.ref a1, .int 0, .int 3] (Qtob3 Z G1 fm a1 ka c0 c1 c2 h0 n0) := by
  obtain ⟨hw, O_cs, P_cs, O_as, O_hi, O_lo, O_fm, R_fm⟩ := id hG
  have W := @own_W _ _ hw
  refine own_go "java/lang/StringUTF16" rfl (plainFor_of_name pn_java_lang_StringUTF16) ?_
  intro p e s m below meth c s₁ Bd hx hby hml hown hnm X0 e0 hZ
  have hB := @hb _ _ hby
  have N0 := Fr.nil n0
  -- pc 1: java/lang/StringUTF16.newBytesFor
  obtain ⟨_, _, ⟨T226, L226, k226, n226⟩, -, X226, ⟨Lc226, hQ226, l226, y226, z226⟩, st226⟩ := Jvm.LawKit.callS X0 hx (y := y14) hown (mvT hZ (W 87 rfl)) (mvT hZ (W 88 rfl)) (mvT hZ (W 40 rfl)) (mvT hZ (W 89 rfl)) (by decide) (backOf (W := 0) (rmnbf3 l Z a0 G1 fm hG [] h0 n0 Z0 X00) hZ (W 89 rfl) (W 40 rfl) (by decide) (by decide)) (g := (mkF m 1 #[.val (.ref a1), .val (.int 0), .val (.int 3), .unset, .unset] [.int 3])) rfl (by rw [hml]; rfl) (argsL := [.int 3]) (rest := []) (lenOf pd__I__B rfl) rfl (by show 2 * 0 + _ ≤ _; exact Nat.le_of_eq rfl) (hB d15_1) (fun _ _ => ⟨rfl, e0, (by decide : 0 + 1 ≤ _), (by decide : 0 + 6 ≤ _)⟩)
  dsimp only [Pt.U, Pt.locs, Pt.cells, Pt.slots] at X226 l226 y226 z226 st226 hQ226
  subst l226 y226 z226
  obtain ⟨b_226, kb_226, rfl, N226q, K226, f226_0, f226_1⟩ := hQ226
  have N226 := Fr.app N0 N226q
  have Z227 : n0 ≤ T226.heap.size := Nat.le_trans Z0 K226.1
  have K0_227 : Keep h0 T226.heap [] := (Keep.refl h0 []).trans K226 all0
  have O227 : Old Z n0 T226.heap := X00.keep K226 all0
  have lo_b_226 : h0.size ≤ b_226 := f226_0
  have g_b_226 : n0 ≤ b_226 := Nat.le_trans Z0 lo_b_226
  have l0_b_226 : h0.size ≤ b_226 := Nat.le_trans (Keep.refl h0 []).1 lo_b_226
  have f228 := (V_a1.keep K226 nin0)
  obtain ⟨clq229, Arq229, qaq229, Sq229, Nq229, Hq229, Gq229⟩ := id f228
  have hinq229 := inb_of (j := (0 : Int32)) Sq229 ⟨by decide, by decide⟩
  have hatq229 := Has.at (v := (.int c0)) Hq229 hinq229 rfl
  -- pc 20: java/lang/StringUTF16.putChar
  obtain ⟨_, _, ⟨T230, L230, k230, n230⟩, -, X230, ⟨Lc230, hQ230, l230, y230, z230⟩, st230⟩ := Jvm.LawKit.callS X226 hx (y := y1) hown (mvT hZ (W 94 rfl)) (mvT hZ (W 95 rfl)) (mvT hZ (W 40 rfl)) (mvT hZ (W 96 rfl)) (by decide) (backOf (W := 0) (rmput l Z a0 G1 fm hG [] b_226 kb_226 (6 : Int32) ([.int 0, .int 0, .int 0, .int 0, .int 0, .int 0] : List Value) (0 : Int32) 0 c0 T226.heap n0 Z227 O227 f226_1 g_b_226 (by decide) (by decide) (own_ble rfl) (by decide) (by decide) (own_ble rfl)) hZ (W 96 rfl) (W 40 rfl) (by decide) (by decide)) (g := (mkF m 20 #[.val (.ref a1), .val (.int 0), .val (.int 3), .val (.ref b_226), .val (.int 0)] [.int c0, .int 0, .ref b_226])) rfl (by rw [hml]; rfl) (argsL := [.ref b_226, .int 0, .int c0]) (rest := []) (lenOf pd___BII_V rfl) rfl (by show 2 * 0 + _ ≤ _; exact Nat.le_of_eq rfl) (hB d15_20) (fun _ _ => ⟨rfl, rfl, (by decide : 1 + 0 ≤ _), (by decide : 6 + 0 ≤ _)⟩)
  dsimp only [Pt.U, Pt.locs, Pt.cells, Pt.slots] at X230 l230 y230 z230 st230 hQ230
  subst l230 y230 z230
  obtain ⟨rfl, N230q, K230, f230_0⟩ := hQ230
  have N230 := Fr.app N226 N230q
  have Z231 : n0 ≤ T230.heap.size := Nat.le_trans Z227 K230.1
  have K0_231 : Keep h0 T230.heap [] := K0_227.trans K230 (allS (Or.inr l0_b_226) all0)
  have O231 : Old Z n0 T230.heap := O227.keep K230 (allS g_b_226 all0)
  have cv230 : Arv Z T230.heap b_226 kb_226 .byte (6 : Int32) [(.int (((c0 >>> ((0 : Int32) &&& 31)).toInt8.toInt32).toInt8.toInt32)), (.int (((c0 >>> ((8 : Int32) &&& 31)).toInt8.toInt32).toInt8.toInt32)), .int 0, .int 0, .int 0, .int 0] (.int 0) := f230_0
  have f232 := (f228.keep K230 (ninS (Nat.ne_of_lt (Nat.lt_of_lt_of_le V_a1.lt lo_b_226)) nin0))
  obtain ⟨clq233, Arq233, qaq233, Sq233, Nq233, Hq233, Gq233⟩ := id f232
  have hinq233 := inb_of (j := (1 : Int32)) Sq233 ⟨by decide, by decide⟩
  have hatq233 := Has.at (v := (.int c1)) Hq233 hinq233 rfl
  -- pc 20: java/lang/StringUTF16.putChar
  obtain ⟨_, _, ⟨T234, L234, k234, n234⟩, -, X234, ⟨Lc234, hQ234, l234, y234, z234⟩, st234⟩ := Jvm.LawKit.callS X230 hx (y := y1) hown (mvT hZ (W 94 rfl)) (mvT hZ (W 95 rfl)) (mvT hZ (W 40 rfl)) (mvT hZ (W 96 rfl)) (by decide) (backOf (W := 0) (rmput l Z a0 G1 fm hG [] b_226 kb_226 (6 : Int32) ([(.int (((c0 >>> ((0 : Int32) &&& 31)).toInt8.toInt32).toInt8.toInt32)), (.int (((c0 >>> ((8 : Int32) &&& 31)).toInt8.toInt32).toInt8.toInt32)), .int 0, .int 0, .int 0, .int 0] : List Value) (1 : Int32) 2 c1 T230.heap n0 Z231 O231 cv230 g_b_226 (by decide) (by decide) (own_ble rfl) (by decide) (by decide) (own_ble rfl)) hZ (W 96 rfl) (W 40 rfl) (by decide) (by decide)) (g := (mkF m 20 #[.val (.ref a1), .val (.int 1), .val (.int 3), .val (.ref b_226), .val (.int 1)] [.int c1, .int 1, .ref b_226])) rfl (by rw [hml]; rfl) (argsL := [.ref b_226, .int 1, .int c1]) (rest := []) (lenOf pd___BII_V rfl) rfl (by show 2 * 0 + _ ≤ _; exact Nat.le_of_eq rfl) (hB d15_20) (fun _ _ => ⟨rfl, rfl, (by decide : 1 + 0 ≤ _), (by decide : 6 + 0 ≤ _)⟩)
  dsimp only [Pt.U, Pt.locs, Pt.cells, Pt.slots] at X234 l234 y234 z234 st234 hQ234
  subst l234 y234 z234
  obtain ⟨rfl, N234q, K234, f234_0⟩ := hQ234
  have N234 := Fr.app N230 N234q
  have Z235 : n0 ≤ T234.heap.size := Nat.le_trans Z231 K234.1
  have K0_235 : Keep h0 T234.heap [] := K0_231.trans K234 (allS (Or.inr l0_b_226) all0)
  have O235 : Old Z n0 T234.heap := O231.keep K234 (allS g_b_226 all0)
  have cv234 : Arv Z T234.heap b_226 kb_226 .byte (6 : Int32) [(.int (((c0 >>> ((0 : Int32) &&& 31)).toInt8.toInt32).toInt8.toInt32)), (.int (((c0 >>> ((8 : Int32) &&& 31)).toInt8.toInt32).toInt8.toInt32)), (.int (((c1 >>> ((0 : Int32) &&& 31)).toInt8.toInt32).toInt8.toInt32)), (.int (((c1 >>> ((8 : Int32) &&& 31)).toInt8.toInt32).toInt8.toInt32)), .int 0, .int 0] (.int 0) := f234_0
  have f236 := (f232.keep K234 (ninS (Nat.ne_of_lt (Nat.lt_of_lt_of_le V_a1.lt lo_b_226)) nin0))
  obtain ⟨clq237, Arq237, qaq237, Sq237, Nq237, Hq237, Gq237⟩ := id f236
  have hinq237 := inb_of (j := (2 : Int32)) Sq237 ⟨by decide, by decide⟩
  have hatq237 := Has.at (v := (.int c2)) Hq237 hinq237 rfl
  -- pc 20: java/lang/StringUTF16.putChar
  obtain ⟨_, _, ⟨T238, L238, k238, n238⟩, -, X238, ⟨Lc238, hQ238, l238, y238, z238⟩, st238⟩ := Jvm.LawKit.callS X234 hx (y := y1) hown (mvT hZ (W 94 rfl)) (mvT hZ (W 95 rfl)) (mvT hZ (W 40 rfl)) (mvT hZ (W 96 rfl)) (by decide) (backOf (W := 0) (rmput l Z a0 G1 fm hG [] b_226 kb_226 (6 : Int32) ([(.int (((c0 >>> ((0 : Int32) &&& 31)).toInt8.toInt32).toInt8.toInt32)), (.int (((c0 >>> ((8 : Int32) &&& 31)).toInt8.toInt32).toInt8.toInt32)), (.int (((c1 >>> ((0 : Int32) &&& 31)).toInt8.toInt32).toInt8.toInt32)), (.int (((c1 >>> ((8 : Int32) &&& 31)).toInt8.toInt32).toInt8.toInt32)), .int 0, .int 0] : List Value) (2 : Int32) 4 c2 T234.heap n0 Z235 O235 cv234 g_b_226 (by decide) (by decide) (own_ble rfl) (by decide) (by decide) (own_ble rfl)) hZ (W 96 rfl) (W 40 rfl) (by decide) (by decide)) (g := (mkF m 20 #[.val (.ref a1), .val (.int 2), .val (.int 3), .val (.ref b_226), .val (.int 2)] [.int c2, .int 2, .ref b_226])) rfl (by rw [hml]; rfl) (argsL := [.ref b_226, .int 2, .int c2]) (rest := []) (lenOf pd___BII_V rfl) rfl (by show 2 * 0 + _ ≤ _; exact Nat.le_of_eq rfl) (hB d15_20) (fun _ _ => ⟨rfl, rfl, (by decide : 1 + 0 ≤ _), (by decide : 6 + 0 ≤ _)⟩)
  dsimp only [Pt.U, Pt.locs, Pt.cells, Pt.slots] at X238 l238 y238 z238 st238 hQ238
  subst l238 y238 z238
  obtain ⟨rfl, N238q, K238, f238_0⟩ := hQ238
  have N238 := Fr.app N234 N238q
  have Z239 : n0 ≤ T238.heap.size := Nat.le_trans Z235 K238.1
  have K0_239 : Keep h0 T238.heap [] := K0_235.trans K238 (allS (Or.inr l0_b_226) all0)
  have O239 : Old Z n0 T238.heap := O235.keep K238 (allS g_b_226 all0)
  have cv238 : Arv Z T238.heap b_226 kb_226 .byte (6 : Int32) [(.int (((c0 >>> ((0 : Int32) &&& 31)).toInt8.toInt32).toInt8.toInt32)), (.int (((c0 >>> ((8 : Int32) &&& 31)).toInt8.toInt32).toInt8.toInt32)), (.int (((c1 >>> ((0 : Int32) &&& 31)).toInt8.toInt32).toInt8.toInt32)), (.int (((c1 >>> ((8 : Int32) &&& 31)).toInt8.toInt32).toInt8.toInt32)), (.int (((c2 >>> ((0 : Int32) &&& 31)).toInt8.toInt32).toInt8.toInt32)), (.int (((c2 >>> ((8 : Int32) &&& 31)).toInt8.toInt32).toInt8.toInt32))] (.int 0) := f238_0
  obtain ⟨fs, hr, hrun, hended, hW, hsame⟩ := X238.leave (v := some (.ref b_226)) (fun h => by rw [Bd.returns] at h; cases h)
  refine ⟨_, _, castTop (ef_jdk_52_method_14_code_RII m a1 (0 : Int32) (3 : Int32)) ?_, hrun, hended, _, _, rfl, ?_, ⟨_, rfl⟩, hW, hsame.mono (own_ble rfl) (own_ble rfl)⟩
  · show Steps _ _ _ (s₁.setTop (mkF m 0 #[.val (.ref a1), .val (.int 0), .val (.int 3), .unset, .unset] [])) _
    refine XS.iloadN X0.here hx rfl (hB d15_0) rfl ?_
    refine st226 _ ?_
    show Steps _ _ _ (T226.setTop (mkF m 4 #[.val (.ref a1), .val (.int 0), .val (.int 3), .unset, .unset] [.ref b_226])) _
    refine XS.astoreN X226.here hx rfl (hB d15_4) rfl rfl (l' := #[.val (.ref a1), .val (.int 0), .val (.int 3), .val (.ref b_226), .unset]) rfl ?_
    refine XS.iconst X226.here hx rfl (hB d15_5) ?_
    refine XS.istore X226.here hx rfl (hB d15_6) rfl (l' := #[.val (.ref a1), .val (.int 0), .val (.int 3), .val (.ref b_226), .val (.int 0)]) rfl ?_
    refine XS.iload X226.here hx rfl (hB d15_8) rfl ?_
    refine XS.iloadN X226.here hx rfl (hB d15_10) rfl ?_
    refine XS.icmpNo X226.here hx rfl (hB d15_11) rfl (tlt (by decide : (0 : Int32) < (3 : Int32))).2.1 ?_
    refine XS.aloadN X226.here hx rfl (hB d15_14) rfl rfl ?_
    refine XS.iload X226.here hx rfl (hB d15_15) rfl ?_
    refine XS.aloadN X226.here hx rfl (hB d15_17) rfl rfl ?_
    refine XS.iloadN X226.here hx rfl (hB d15_18) rfl ?_
    refine X226.caload hx (j := (0 : Int32)) (v := (.int c0)) (own_cell rfl Arq229.1) (State.isArrayOf_alike hZ.alike Arq229.2.1) Arq229.2.2 hinq229 hatq229 (g := (mkF m 19 #[.val (.ref a1), .val (.int 0), .val (.int 3), .val (.ref b_226), .val (.int 0)] [.int 0, .ref a1, .int 0, .ref b_226])) rfl rfl (hB d15_19) _ ?_
    refine st230 _ ?_
    show Steps _ _ _ (T230.setTop (mkF m 23 #[.val (.ref a1), .val (.int 0), .val (.int 3), .val (.ref b_226), .val (.int 0)] [])) _
    refine XS.iinc X230.here hx rfl (hB d15_23) rfl (l' := #[.val (.ref a1), .val (.int 1), .val (.int 3), .val (.ref b_226), .val (.int 0)]) rfl ?_
    refine XS.iinc X230.here hx rfl (hB d15_26) rfl (l' := #[.val (.ref a1), .val (.int 1), .val (.int 3), .val (.ref b_226), .val (.int 1)]) rfl ?_
    refine XS.goto X230.here hx rfl (pc0 := 29) (pc' := 8) rfl (hB d15_29) (by decide) (by decide) ?_
    refine XS.iload X230.here hx rfl (hB d15_8) rfl ?_
    refine XS.iloadN X230.here hx rfl (hB d15_10) rfl ?_
    refine XS.icmpNo X230.here hx rfl (hB d15_11) rfl (tlt (by decide : (1 : Int32) < (3 : Int32))).2.1 ?_
    refine XS.aloadN X230.here hx rfl (hB d15_14) rfl rfl ?_
    refine XS.iload X230.here hx rfl (hB d15_15) rfl ?_
    refine XS.aloadN X230.here hx rfl (hB d15_17) rfl rfl ?_
    refine XS.iloadN X230.here hx rfl (hB d15_18) rfl ?_
    refine X230.caload hx (j := (1 : Int32)) (v := (.int c1)) (own_cell rfl Arq233.1) (State.isArrayOf_alike hZ.alike Arq233.2.1) Arq233.2.2 hinq233 hatq233 (g := (mkF m 19 #[.val (.ref a1), .val (.int 1), .val (.int 3), .val (.ref b_226), .val (.int 1)] [.int 1, .ref a1, .int 1, .ref b_226])) rfl rfl (hB d15_19) _ ?_
    refine st234 _ ?_
    show Steps _ _ _ (T234.setTop (mkF m 23 #[.val (.ref a1), .val (.int 1), .val (.int 3), .val (.ref b_226), .val (.int 1)] [])) _
    refine XS.iinc X234.here hx rfl (hB d15_23) rfl (l' := #[.val (.ref a1), .val (.int 2), .val (.int 3), .val (.ref b_226), .val (.int 1)]) rfl ?_
    refine XS.iinc X234.here hx rfl (hB d15_26) rfl (l' := #[.val (.ref a1), .val (.int 2), .val (.int 3), .val (.ref b_226), .val (.int 2)]) rfl ?_
    refine XS.goto X234.here hx rfl (pc0 := 29) (pc' := 8) rfl (hB d15_29) (by decide) (by decide) ?_
    refine XS.iload X234.here hx rfl (hB d15_8) rfl ?_
    refine XS.iloadN X234.here hx rfl (hB d15_10) rfl ?_
    refine XS.icmpNo X234.here hx rfl (hB d15_11) rfl (tlt (by decide : (2 : Int32) < (3 : Int32))).2.1 ?_
    refine XS.aloadN X234.here hx rfl (hB d15_14) rfl rfl ?_
    refine XS.iload X234.here hx rfl (hB d15_15) rfl ?_
    refine XS.aloadN X234.here hx rfl (hB d15_17) rfl rfl ?_
    refine XS.iloadN X234.here hx rfl (hB d15_18) rfl ?_
    refine X234.caload hx (j := (2 : Int32)) (v := (.int c2)) (own_cell rfl Arq237.1) (State.isArrayOf_alike hZ.alike Arq237.2.1) Arq237.2.2 hinq237 hatq237 (g := (mkF m 19 #[.val (.ref a1), .val (.int 2), .val (.int 3), .val (.ref b_226), .val (.int 2)] [.int 2, .ref a1, .int 2, .ref b_226])) rfl rfl (hB d15_19) _ ?_
    refine st238 _ ?_
    show Steps _ _ _ (T238.setTop (mkF m 23 #[.val (.ref a1), .val (.int 2), .val (.int 3), .val (.ref b_226), .val (.int 2)] [])) _
    refine XS.iinc X238.here hx rfl (hB d15_23) rfl (l' := #[.val (.ref a1), .val (.int 3), .val (.int 3), .val (.ref b_226), .val (.int 2)]) rfl ?_
    refine XS.iinc X238.here hx rfl (hB d15_26) rfl (l' := #[.val (.ref a1), .val (.int 3), .val (.int 3), .val (.ref b_226), .val (.int 3)]) rfl ?_
    refine XS.goto X238.here hx rfl (pc0 := 29) (pc' := 8) rfl (hB d15_29) (by decide) (by decide) ?_
    refine XS.iload X238.here hx rfl (hB d15_8) rfl ?_
    refine XS.iloadN X238.here hx rfl (hB d15_10) rfl ?_
    refine XS.icmpYes X238.here hx rfl (pc0 := 11) (pc' := 32) rfl (hB d15_11) rfl (flt (by decide : ¬ ((3 : Int32) < (3 : Int32)))).2.1 (by decide) (by decide) ?_
    refine XS.aloadN X238.here hx rfl (hB d15_32) rfl rfl ?_
    exact retOut X238 hx Bd.returns rfl (Or.inr (Or.inr (Or.inr (Or.inr ⟨rfl, rfl, rfl⟩)))) (hB d15_33) hr
  · show Qtob3 Z G1 fm a1 ka c0 c1 c2 h0 n0 _ T238.heap _
    exact ⟨b_226, kb_226, rfl, N238, K0_239, l0_b_226, cv238⟩
def Qc3L3 (Z : State) (G1 : Int32) (fm : Value) (a1 : Addr) (ka : ClassId) (c0 : Int32) (c1 : Int32) (c2 : Int32) (h0 : Heap) (n0 : Nat) (v : Option Value) (h : Heap) (L : List Loc) : Prop := ∃ b : Addr, ∃ kb : ClassId, v = some (.ref b) ∧ Fr n0 L ∧ Keep h0 h [] ∧ h0.size ≤ b ∧ Arv Z h b kb .byte (3 : Int32) [(.int ((c0.toInt8.toInt32).toInt8.toInt32)), (.int ((c1.toInt8.toInt32).toInt8.toInt32)), (.int ((c2.toInt8.toInt32).toInt8.toInt32))] (.int 0)
theorem rmc3L3 (l : Launch) (Z : State) (a0 : Array Value) (G1 : Int32) (fm : Value) (hG : Glob Z a0 G1 fm) (ws : List Jvm.Cond) (a1 : Addr) (ka : ClassId) (c0 : Int32) (c1 : Int32) (c2 : Int32) (h0 : Heap) (n0 : Nat) (Z0 : n0 ≤ h0.size) (X00 : Old Z n0 h0) (V_a1 : Arv Z h0 a1 ka .char (3 : Int32) [.int c0, .int c1, .int c2] (.int 0)) (hl0 : ¬ ((255 : Int32) < c0)) (hl1 : ¬ ((255 : Int32) < c1)) (hl2 : ¬ ((255 : Int32) < c2)) :
    Met l Z h0 y16 jdk_52_method_16_code 6 (some (.array .byte)) ws (Room.mk 1 1 3 18) #[.ref a1, .int 0, .int 3] (Qc3L3 Z G1 fm a1 ka c0 c1 c2 h0 n0) := by
  obtain ⟨hw, O_cs, P_cs, O_as, O_hi, O_lo, O_fm, R_fm⟩ := id hG
  have W := @own_W _ _ hw
  refine own_go "java/lang/StringUTF16" rfl (plainFor_of_name pn_java_lang_StringUTF16) ?_
  intro p e s m below meth c s₁ Bd hx hby hml hown hnm X0 e0 hZ
  have hB := @hb _ _ hby
  have N0 := Fr.nil n0
  obtain ⟨T240, h240, k240, X240, e240, E240, A240, Q240, st240⟩ := newPE X0 hx hZ (W 16 rfl) e0 (g := (mkF m 1 #[.val (.ref a1), .val (.int 0), .val (.int 3), .unset, .unset, .unset] [.int 3])) rfl (hB d16_1) rfl (by decide) (cap := 3) (by decide) (by decide) (by decide) (by decide) (ad := "[B") rfl
  obtain ⟨b240, g240⟩ : ∃ z, z = h0.size := ⟨_, rfl⟩
  rw [← g240] at A240 Q240 st240
  have Z241 : n0 ≤ h240.size := Nat.le_trans Z0 E240.1
  have K0_241 : Keep h0 h240 [] := (Keep.refl h0 []).ext E240
  have O241 : Old Z n0 h240 := X00.ext E240
  have lo_b240 : h0.size ≤ b240 := Nat.le_of_eq g240.symm
  have g_b240 : n0 ≤ b240 := Nat.le_trans Z0 lo_b240
  have l0_b240 : h0.size ≤ b240 := Nat.le_trans (Keep.refl h0 []).1 lo_b240
  have V_b240 : Arv Z h240 b240 k240 .byte (3 : Int32) [.int 0, .int 0, .int 0] (.int 0) := (Arv.new A240 (by decide)).pad (pad_rep [] (.int 0) 3)
  have f243 := (V_a1.ext E240)
  -- pc 9: java/lang/StringUTF16.compress
  obtain ⟨_, _, ⟨T242, L242, k242, n242⟩, -, X242, ⟨Lc242, hQ242, l242, y242, z242⟩, st242⟩ := Jvm.LawKit.callS X240 hx (y := y12) hown (mvT hZ (W 42 rfl)) (mvT hZ (W 43 rfl)) (mvT hZ (W 40 rfl)) (mvT hZ (W 44 rfl)) (by decide) (backOf (W := 0) (rmc5L3 l Z a0 G1 fm hG [] a1 b240 ka k240 c0 c1 c2 h240 n0 Z241 O241 f243 V_b240 g_b240 (Nat.ne_of_lt (Nat.lt_of_lt_of_le V_a1.lt lo_b240)) (by first | assumption | decide | rfl) (by first | assumption | decide | rfl) (by first | assumption | decide | rfl)) hZ (W 44 rfl) (W 40 rfl) (by decide) (by decide)) (g := (mkF m 9 #[.val (.ref a1), .val (.int 0), .val (.int 3), .val (.ref b240), .unset, .unset] [.int 3, .int 0, .ref b240, .int 0, .ref a1])) rfl (by rw [hml]; rfl) (argsL := [.ref a1, .int 0, .ref b240, .int 0, .int 3]) (rest := []) (lenOf pd___CI_BII_I rfl) rfl (by show 2 * 0 + _ ≤ _; exact Nat.le_of_eq rfl) (hB d16_9) (fun _ _ => ⟨rfl, e240, (by decide : 1 + 0 ≤ _), (by decide : 3 + 0 ≤ _)⟩)
  dsimp only [Pt.U, Pt.locs, Pt.cells, Pt.slots] at X242 l242 y242 z242 st242 hQ242
  subst l242 y242 z242
  obtain ⟨rfl, N242q, K242, f242_0⟩ := hQ242
  have N242 := Fr.app N0 N242q
  have Z244 : n0 ≤ T242.heap.size := Nat.le_trans Z241 K242.1
  have K0_244 : Keep h0 T242.heap [] := K0_241.trans K242 (allS (Or.inr l0_b240) all0)
  have O244 : Old Z n0 T242.heap := O241.keep K242 (allS g_b240 all0)
  obtain ⟨fs, hr, hrun, hended, hW, hsame⟩ := X242.leave (v := some (.ref b240)) (fun h => by rw [Bd.returns] at h; cases h)
  refine ⟨_, _, castTop (ef_jdk_52_method_16_code_RII m a1 (0 : Int32) (3 : Int32)) ?_, hrun, hended, _, _, rfl, ?_, ⟨_, rfl⟩, hW, hsame.mono (own_ble rfl) (own_ble rfl)⟩
  · show Steps _ _ _ (s₁.setTop (mkF m 0 #[.val (.ref a1), .val (.int 0), .val (.int 3), .unset, .unset, .unset] [])) _
    refine XS.iloadN X0.here hx rfl (hB d16_0) rfl ?_
    refine st240 _ ?_
    show Steps _ _ _ (T240.setTop (mkF m 3 #[.val (.ref a1), .val (.int 0), .val (.int 3), .unset, .unset, .unset] [.ref b240])) _
    refine XS.astoreN X240.here hx rfl (hB d16_3) rfl rfl (l' := #[.val (.ref a1), .val (.int 0), .val (.int 3), .val (.ref b240), .unset, .unset]) rfl ?_
    refine XS.aloadN X240.here hx rfl (hB d16_4) rfl rfl ?_
    refine XS.iloadN X240.here hx rfl (hB d16_5) rfl ?_
    refine XS.aloadN X240.here hx rfl (hB d16_6) rfl rfl ?_
    refine XS.iconst X240.here hx rfl (hB d16_7) ?_
    refine XS.iloadN X240.here hx rfl (hB d16_8) rfl ?_
    refine st242 _ ?_
    show Steps _ _ _ (T242.setTop (mkF m 12 #[.val (.ref a1), .val (.int 0), .val (.int 3), .val (.ref b240), .unset, .unset] [.int 3])) _
    refine XS.istore X242.here hx rfl (hB d16_12) rfl (l' := #[.val (.ref a1), .val (.int 0), .val (.int 3), .val (.ref b240), .val (.int 3), .unset]) rfl ?_
    refine XS.iload X242.here hx rfl (hB d16_14) rfl ?_
    refine XS.iloadN X242.here hx rfl (hB d16_16) rfl ?_
    refine XS.icmpYes X242.here hx rfl (pc0 := 17) (pc' := 57) rfl (hB d16_17) rfl (teq (by decide : (3 : Int32) = (3 : Int32))).1 (by decide) (by decide) ?_
    refine XS.aloadN X242.here hx rfl (hB d16_57) rfl rfl ?_
    exact retOut X242 hx Bd.returns rfl (Or.inr (Or.inr (Or.inr (Or.inr ⟨rfl, rfl, rfl⟩)))) (hB d16_58) hr
  · show Qc3L3 Z G1 fm a1 ka c0 c1 c2 h0 n0 _ T242.heap _
    exact ⟨b240, k240, rfl, N242, K0_244, l0_b240, f242_0⟩
def Qc3W3 (Z : State) (G1 : Int32) (fm : Value) (a1 : Addr) (ka : ClassId) (c0 : Int32) (c1 : Int32) (c2 : Int32) (h0 : Heap) (n0 : Nat) (v : Option Value) (h : Heap) (L : List Loc) : Prop := ∃ b : Addr, ∃ kb : ClassId, v = some (.ref b) ∧ Fr n0 L ∧ Keep h0 h [] ∧ h0.size ≤ b ∧ Arv Z h b kb .byte (6 : Int32) [(.int (((c0 >>> ((0 : Int32) &&& 31)).toInt8.toInt32).toInt8.toInt32)), (.int (((c0 >>> ((8 : Int32) &&& 31)).toInt8.toInt32).toInt8.toInt32)), (.int (((c1 >>> ((0 : Int32) &&& 31)).toInt8.toInt32).toInt8.toInt32)), (.int (((c1 >>> ((8 : Int32) &&& 31)).toInt8.toInt32).toInt8.toInt32)), (.int (((c2 >>> ((0 : Int32) &&& 31)).toInt8.toInt32).toInt8.toInt32)), (.int (((c2 >>> ((8 : Int32) &&& 31)).toInt8.toInt32).toInt8.toInt32))] (.int 0)
theorem rmc3W3 (l : Launch) (Z : State) (a0 : Array Value) (G1 : Int32) (fm : Value) (hG : Glob Z a0 G1 fm) (ws : List Jvm.Cond) (a1 : Addr) (ka : ClassId) (c0 : Int32) (c1 : Int32) (c2 : Int32) (h0 : Heap) (n0 : Nat) (Z0 : n0 ≤ h0.size) (X00 : Old Z n0 h0) (V_a1 : Arv Z h0 a1 ka .char (3 : Int32) [.int c0, .int c1, .int c2] (.int 0)) (hwid : ¬ (¬ ((255 : Int32) < c0) ∧ ¬ ((255 : Int32) < c1) ∧ ¬ ((255 : Int32) < c2))) (hu : ∀ c ∈ ([c0, c1, c2] : List Int32), own_u16 c) :
    Met l Z h0 y16 jdk_52_method_16_code 6 (some (.array .byte)) ws (Room.mk 3 2 9 40) #[.ref a1, .int 0, .int 3] (Qc3W3 Z G1 fm a1 ka c0 c1 c2 h0 n0) := by
  obtain ⟨hw, O_cs, P_cs, O_as, O_hi, O_lo, O_fm, R_fm⟩ := id hG
  have W := @own_W _ _ hw
  refine own_go "java/lang/StringUTF16" rfl (plainFor_of_name pn_java_lang_StringUTF16) ?_
  intro p e s m below meth c s₁ Bd hx hby hml hown hnm X0 e0 hZ
  have hB := @hb _ _ hby
  have N0 := Fr.nil n0
  obtain ⟨T245, h245, k245, X245, e245, E245, A245, Q245, st245⟩ := newPE X0 hx hZ (W 16 rfl) e0 (g := (mkF m 1 #[.val (.ref a1), .val (.int 0), .val (.int 3), .unset, .unset, .unset] [.int 3])) rfl (hB d16_1) rfl (by decide) (cap := 3) (by decide) (by decide) (by decide) (by decide) (ad := "[B") rfl
  obtain ⟨b245, g245⟩ : ∃ z, z = h0.size := ⟨_, rfl⟩
  rw [← g245] at A245 Q245 st245
  have Z246 : n0 ≤ h245.size := Nat.le_trans Z0 E245.1
  have K0_246 : Keep h0 h245 [] := (Keep.refl h0 []).ext E245
  have O246 : Old Z n0 h245 := X00.ext E245
  have lo_b245 : h0.size ≤ b245 := Nat.le_of_eq g245.symm
  have g_b245 : n0 ≤ b245 := Nat.le_trans Z0 lo_b245
  have l0_b245 : h0.size ≤ b245 := Nat.le_trans (Keep.refl h0 []).1 lo_b245
  have V_b245 : Arv Z h245 b245 k245 .byte (3 : Int32) [.int 0, .int 0, .int 0] (.int 0) := (Arv.new A245 (by decide)).pad (pad_rep [] (.int 0) 3)
  have f248 := (V_a1.ext E245)
  -- pc 9: java/lang/StringUTF16.compress
  obtain ⟨_, _, ⟨T247, L247, k247, n247⟩, -, X247, ⟨Lc247, hQ247, l247, y247, z247⟩, st247⟩ := Jvm.LawKit.callS X245 hx (y := y12) hown (mvT hZ (W 42 rfl)) (mvT hZ (W 43 rfl)) (mvT hZ (W 40 rfl)) (mvT hZ (W 44 rfl)) (by decide) (backOf (W := 0) (rmc5W3 l Z a0 G1 fm hG [] a1 b245 ka k245 c0 c1 c2 h245 n0 Z246 O246 f248 V_b245 g_b245 (Nat.ne_of_lt (Nat.lt_of_lt_of_le V_a1.lt lo_b245)) (by first | assumption | decide | rfl)) hZ (W 44 rfl) (W 40 rfl) (by decide) (by decide)) (g := (mkF m 9 #[.val (.ref a1), .val (.int 0), .val (.int 3), .val (.ref b245), .unset, .unset] [.int 3, .int 0, .ref b245, .int 0, .ref a1])) rfl (by rw [hml]; rfl) (argsL := [.ref a1, .int 0, .ref b245, .int 0, .int 3]) (rest := []) (lenOf pd___CI_BII_I rfl) rfl (by show 2 * 0 + _ ≤ _; exact Nat.le_of_eq rfl) (hB d16_9) (fun _ _ => ⟨rfl, e245, (by decide : 1 + 0 ≤ _), (by decide : 3 + 0 ≤ _)⟩)
  dsimp only [Pt.U, Pt.locs, Pt.cells, Pt.slots] at X247 l247 y247 z247 st247 hQ247
  subst l247 y247 z247
  obtain ⟨j_247, rfl, N247q, K247, f247_0⟩ := hQ247
  have N247 := Fr.app N0 N247q
  have Z249 : n0 ≤ T247.heap.size := Nat.le_trans Z246 K247.1
  have K0_249 : Keep h0 T247.heap [] := K0_246.trans K247 (allS (Or.inr l0_b245) all0)
  have O249 : Old Z n0 T247.heap := O246.keep K247 (allS g_b245 all0)
  have f251 := (f248.keep K247 (ninS (Nat.ne_of_lt (Nat.lt_of_lt_of_le V_a1.lt lo_b245)) nin0))
  -- pc 23: java/lang/StringUTF16.toBytes
  obtain ⟨_, _, ⟨T250, L250, k250, n250⟩, -, X250, ⟨Lc250, hQ250, l250, y250, z250⟩, st250⟩ := Jvm.LawKit.callS X247 hx (y := y15) hown (mvT hZ (W 84 rfl)) (mvT hZ (W 85 rfl)) (mvT hZ (W 40 rfl)) (mvT hZ (W 86 rfl)) (by decide) (backOf (W := 0) (rmtob3 l Z a0 G1 fm hG [] a1 ka c0 c1 c2 T247.heap n0 Z249 O249 f251) hZ (W 86 rfl) (W 40 rfl) (by decide) (by decide)) (g := (mkF m 23 #[.val (.ref a1), .val (.int 0), .val (.int 3), .val (.ref b245), .val (.int j_247), .unset] [.int 3, .int 0, .ref a1])) rfl (by rw [hml]; rfl) (argsL := [.ref a1, .int 0, .int 3]) (rest := []) (lenOf pd___CII__B rfl) rfl (by show 2 * 0 + _ ≤ _; exact Nat.le_of_eq rfl) (hB d16_23) (fun _ _ => ⟨rfl, rfl, (by decide : 1 + 1 ≤ _), (by decide : 3 + 6 ≤ _)⟩)
  dsimp only [Pt.U, Pt.locs, Pt.cells, Pt.slots] at X250 l250 y250 z250 st250 hQ250
  subst l250 y250 z250
  obtain ⟨b_250, kb_250, rfl, N250q, K250, f250_0, f250_1⟩ := hQ250
  have N250 := Fr.app N247 N250q
  have Z252 : n0 ≤ T250.heap.size := Nat.le_trans Z249 K250.1
  have K0_252 : Keep h0 T250.heap [] := K0_249.trans K250 all0
  have O252 : Old Z n0 T250.heap := O249.keep K250 all0
  have lo_b_250 : T247.heap.size ≤ b_250 := f250_0
  have g_b_250 : n0 ≤ b_250 := Nat.le_trans Z249 lo_b_250
  have l0_b_250 : h0.size ≤ b_250 := Nat.le_trans K0_249.1 lo_b_250
  obtain ⟨K_, c_, hi_, hg_, hw_⟩ := id f247_0
  -- pc 32: java/lang/StringUTF16.getChar
  obtain ⟨_, _, ⟨T253, L253, k253, n253⟩, -, X253, ⟨Lc253, hQ253, l253, y253, z253⟩, st253⟩ := Jvm.LawKit.callS X250 hx (y := y0) hown (mvT hZ (W 100 rfl)) (mvT hZ (W 101 rfl)) (mvT hZ (W 40 rfl)) (mvT hZ (W 102 rfl)) (by decide) (backOf (W := 0) (rmgch l Z a0 G1 fm hG [] b_250 kb_250 (6 : Int32) ([(.int (((c0 >>> ((0 : Int32) &&& 31)).toInt8.toInt32).toInt8.toInt32)), (.int (((c0 >>> ((8 : Int32) &&& 31)).toInt8.toInt32).toInt8.toInt32)), (.int (((c1 >>> ((0 : Int32) &&& 31)).toInt8.toInt32).toInt8.toInt32)), (.int (((c1 >>> ((8 : Int32) &&& 31)).toInt8.toInt32).toInt8.toInt32)), (.int (((c2 >>> ((0 : Int32) &&& 31)).toInt8.toInt32).toInt8.toInt32)), (.int (((c2 >>> ((8 : Int32) &&& 31)).toInt8.toInt32).toInt8.toInt32))] : List Value) j_247 ([c0, c1, c2] : List Int32) K_ c_ T250.heap n0 Z252 O252 f250_1 rfl rfl (own_ble rfl) hu hi_ hg_) hZ (W 102 rfl) (W 40 rfl) (by decide) (by decide)) (g := (mkF m 32 #[.val (.ref a1), .val (.int 0), .val (.int 3), .val (.ref b245), .val (.int j_247), .val (.ref b_250)] [.int j_247, .ref b_250])) rfl (by rw [hml]; rfl) (argsL := [.ref b_250, .int j_247]) (rest := []) (lenOf pd___BI_C rfl) rfl (by show 2 * 0 + _ ≤ _; exact Nat.le_of_eq rfl) (hB d16_32) (fun _ _ => ⟨rfl, rfl, (by decide : 2 + 0 ≤ _), (by decide : 9 + 0 ≤ _)⟩)
  dsimp only [Pt.U, Pt.locs, Pt.cells, Pt.slots] at X253 l253 y253 z253 st253 hQ253
  subst l253 y253 z253
  obtain ⟨rfl, N253q, eq253⟩ := hQ253
  have N253 := Fr.app N250 N253q
  obtain ⟨fs, hr, hrun, hended, hW, hsame⟩ := X253.leave (v := some (.ref b_250)) (fun h => by rw [Bd.returns] at h; cases h)
  refine ⟨_, _, castTop (ef_jdk_52_method_16_code_RII m a1 (0 : Int32) (3 : Int32)) ?_, hrun, hended, _, _, rfl, ?_, ⟨_, rfl⟩, hW, hsame.mono (own_ble rfl) (own_ble rfl)⟩
  · show Steps _ _ _ (s₁.setTop (mkF m 0 #[.val (.ref a1), .val (.int 0), .val (.int 3), .unset, .unset, .unset] [])) _
    refine XS.iloadN X0.here hx rfl (hB d16_0) rfl ?_
    refine st245 _ ?_
    show Steps _ _ _ (T245.setTop (mkF m 3 #[.val (.ref a1), .val (.int 0), .val (.int 3), .unset, .unset, .unset] [.ref b245])) _
    refine XS.astoreN X245.here hx rfl (hB d16_3) rfl rfl (l' := #[.val (.ref a1), .val (.int 0), .val (.int 3), .val (.ref b245), .unset, .unset]) rfl ?_
    refine XS.aloadN X245.here hx rfl (hB d16_4) rfl rfl ?_
    refine XS.iloadN X245.here hx rfl (hB d16_5) rfl ?_
    refine XS.aloadN X245.here hx rfl (hB d16_6) rfl rfl ?_
    refine XS.iconst X245.here hx rfl (hB d16_7) ?_
    refine XS.iloadN X245.here hx rfl (hB d16_8) rfl ?_
    refine st247 _ ?_
    show Steps _ _ _ (T247.setTop (mkF m 12 #[.val (.ref a1), .val (.int 0), .val (.int 3), .val (.ref b245), .unset, .unset] [.int j_247])) _
    refine XS.istore X247.here hx rfl (hB d16_12) rfl (l' := #[.val (.ref a1), .val (.int 0), .val (.int 3), .val (.ref b245), .val (.int j_247), .unset]) rfl ?_
    refine XS.iload X247.here hx rfl (hB d16_14) rfl ?_
    refine XS.iloadN X247.here hx rfl (hB d16_16) rfl ?_
    refine XS.icmpNo X247.here hx rfl (hB d16_17) rfl (feq (own_fne (cs := [c0, c1, c2]) (own_ble rfl) f247_0 : ¬ (j_247 = (3 : Int32)))).1 ?_
    refine XS.aloadN X247.here hx rfl (hB d16_20) rfl rfl ?_
    refine XS.iloadN X247.here hx rfl (hB d16_21) rfl ?_
    refine XS.iloadN X247.here hx rfl (hB d16_22) rfl ?_
    refine st250 _ ?_
    show Steps _ _ _ (T250.setTop (mkF m 26 #[.val (.ref a1), .val (.int 0), .val (.int 3), .val (.ref b245), .val (.int j_247), .unset] [.ref b_250])) _
    refine XS.astore X250.here hx rfl (hB d16_26) rfl rfl (l' := #[.val (.ref a1), .val (.int 0), .val (.int 3), .val (.ref b245), .val (.int j_247), .val (.ref b_250)]) rfl ?_
    refine XS.aload X250.here hx rfl (hB d16_28) rfl rfl ?_
    refine XS.iload X250.here hx rfl (hB d16_30) rfl ?_
    refine st253 _ ?_
    show Steps _ _ _ (T253.setTop (mkF m 35 #[.val (.ref a1), .val (.int 0), .val (.int 3), .val (.ref b245), .val (.int j_247), .val (.ref b_250)] [.int c_])) _
    refine XS.sipush X253.here hx rfl (hB d16_35) ?_
    refine XS.icmpYes X253.here hx rfl (pc0 := 38) (pc' := 54) rfl (hB d16_38) rfl (tlt (hw_ : (255 : Int32) < c_)).2.2.1 (by decide) (by decide) ?_
    refine XS.aload X253.here hx rfl (hB d16_54) rfl rfl ?_
    exact retOut X253 hx Bd.returns rfl (Or.inr (Or.inr (Or.inr (Or.inr ⟨rfl, rfl, rfl⟩)))) (hB d16_56) hr
  · show Qc3W3 Z G1 fm a1 ka c0 c1 c2 h0 n0 _ T253.heap _
    rw [eq253]
    exact ⟨b_250, kb_250, rfl, N253, K0_252, l0_b_250, f250_1⟩
def QcfaL3 (Z : State) (G1 : Int32) (fm : Value) (b : Addr) (kb : ClassId) (vs : List Value) (h0 : Heap) (n0 : Nat) (v : Option Value) (h : Heap) (L : List Loc) : Prop := v = some (.int 0) ∧ Fr n0 L ∧ h = h0
theorem rmcfaL3 (l : Launch) (Z : State) (a0 : Array Value) (G1 : Int32) (fm : Value) (hG : Glob Z a0 G1 fm) (ws : List Jvm.Cond) (b : Addr) (kb : ClassId) (vs : List Value) (h0 : Heap) (n0 : Nat) (Z0 : n0 ≤ h0.size) (X00 : Old Z n0 h0) (V_b : Arv Z h0 b kb .byte (3 : Int32) vs (.int 0)) :
    Met l Z h0 y17 jdk_52_method_15_code 2 (some .byte) ws (Room.mk 0 0 0 0) #[.ref b, .int 3] (QcfaL3 Z G1 fm b kb vs h0 n0) := by
  obtain ⟨hw, O_cs, P_cs, O_as, O_hi, O_lo, O_fm, R_fm⟩ := id hG
  have W := @own_W _ _ hw
  refine own_go "java/lang/StringUTF16" rfl (plainFor_of_name pn_java_lang_StringUTF16) ?_
  intro p e s m below meth c s₁ Bd hx hby hml hown hnm X0 e0 hZ
  have hB := @hb _ _ hby
  have N0 := Fr.nil n0
  obtain ⟨clq254, Arq254, qaq254, Sq254, Nq254, Hq254, Gq254⟩ := id V_b
  obtain ⟨fs, hr, hrun, hended, hW, hsame⟩ := X0.leave (v := some (.int 0)) (fun h => by rw [Bd.returns] at h; cases h)
  refine ⟨_, _, castTop (ef_jdk_52_method_15_code_RI m b (3 : Int32)) ?_, hrun, hended, _, _, rfl, ?_, ⟨_, rfl⟩, hW, hsame.mono (own_ble rfl) (own_ble rfl)⟩
  · show Steps _ _ _ (s₁.setTop (mkF m 0 #[.val (.ref b), .val (.int 3)] [])) _
    refine XS.iloadN X0.here hx rfl (hB d17_0) rfl ?_
    refine XS.aloadN X0.here hx rfl (hB d17_1) rfl rfl ?_
    refine X0.arraylength hx (own_cell e0 Arq254.1) (State.isArrayOf_alike hZ.alike Arq254.2.1) (g := (mkF m 2 #[.val (.ref b), .val (.int 3)] [.ref b, .int 3])) rfl rfl (hB d17_2) _ ?_
    rw [len_of Sq254 Nq254]
    refine XS.isub X0.here hx rfl (hB d17_3) rfl ?_
    refine XS.bipush X0.here hx rfl (hB d17_4) ?_
    refine XS.iushr X0.here hx rfl (hB d17_6) rfl ?_
    refine XS.i2b X0.here hx rfl (hB d17_7) rfl ?_
    exact retN X0 hx (t := .byte) Bd.returns (by simp) (hB d17_8) hr
  · show QcfaL3 Z G1 fm b kb vs h0 n0 _ s₁.heap _
    rw [e0]
    exact ⟨rfl, N0, rfl⟩
def QviL3 (Z : State) (G1 : Int32) (fm : Value) (a1 : Addr) (b : Addr) (ka : ClassId) (c0 : Int32) (c1 : Int32) (c2 : Int32) (h0 : Heap) (n0 : Nat) (v : Option Value) (h : Heap) (L : List Loc) : Prop := ∃ t : Addr, ∃ kb : ClassId, v = none ∧ Fr n0 L ∧ Keep h0 h [a1] ∧ Exa Z h a1 "java/lang/String" ∧ Fld Z h a1 "java/lang/String" "coder" "B" (.int 0) ∧ Fld Z h a1 "java/lang/String" "value" "[B" (.ref t) ∧ Arv Z h t kb .byte (3 : Int32) [(.int ((c0.toInt8.toInt32).toInt8.toInt32)), (.int ((c1.toInt8.toInt32).toInt8.toInt32)), (.int ((c2.toInt8.toInt32).toInt8.toInt32))] (.int 0)
theorem rmviL3 (l : Launch) (Z : State) (a0 : Array Value) (G1 : Int32) (fm : Value) (hG : Glob Z a0 G1 fm) (ws : List Jvm.Cond) (a1 : Addr) (b : Addr) (ka : ClassId) (c0 : Int32) (c1 : Int32) (c2 : Int32) (h0 : Heap) (n0 : Nat) (Z0 : n0 ≤ h0.size) (X00 : Old Z n0 h0) (E_a1 : Exa Z h0 a1 "java/lang/String") (g_a1 : n0 ≤ a1) (F_value_a1 : Fld Z h0 a1 "java/lang/String" "value" "[B" .null) (F_coder_a1 : Fld Z h0 a1 "java/lang/String" "coder" "B" (.int 0)) (V_b : Arv Z h0 b ka .char (3 : Int32) [.int c0, .int c1, .int c2] (.int 0)) (ne_b_a1 : b ≠ a1) (hl0 : ¬ ((255 : Int32) < c0)) (hl1 : ¬ ((255 : Int32) < c1)) (hl2 : ¬ ((255 : Int32) < c2)) :
    Met l Z h0 y18 jdk_42_method_149_code 6 none ws (Room.mk 2 1 3 35) #[.ref a1, .ref b, .int 0, .int 3, .null] (QviL3 Z G1 fm a1 b ka c0 c1 c2 h0 n0) := by
  obtain ⟨hw, O_cs, P_cs, O_as, O_hi, O_lo, O_fm, R_fm⟩ := id hG
  have W := @own_W _ _ hw
  refine own_go "java/lang/String" rfl (plainFor_of_name pn_java_lang_String) ?_
  intro p e s m below meth c s₁ Bd hx hby hml hown hnm X0 e0 hZ
  have hB := @hb _ _ hby
  have N0 := Fr.nil n0
  obtain ⟨T255, X255, e255, st255⟩ := initO X0 hx hZ hown (W 12 rfl) (W 13 rfl) (W 14 rfl) e0 (g := (mkF m 1 #[.val (.ref a1), .val (.ref b), .val (.int 0), .val (.int 3), .val .null, .unset] [.ref a1])) rfl (by rw [hml]; rfl) rfl (hB d18_1) (by decide) (W := 0) (by show 2 * 0 + _ ≤ _; exact Nat.le_of_eq rfl) (by decide)
  obtain ⟨T256, X256, e256, st256⟩ := getS2 X255 hx hZ hown (host := "") (Or.inl (W 37 rfl)) Via.refl e255 (O_cs.ext X00.2) (g := (mkF m 27 #[.val (.ref a1), .val (.ref b), .val (.int 0), .val (.int 3), .val .null, .unset] [])) rfl (hB d18_27)
  -- pc 36: java/lang/StringUTF16.compress
  obtain ⟨_, _, ⟨T257, L257, k257, n257⟩, -, X257, ⟨Lc257, hQ257, l257, y257, z257⟩, st257⟩ := Jvm.LawKit.callS X256 hx (y := y16) hown (mvT hZ (W 38 rfl)) (mvT hZ (W 39 rfl)) (mvT hZ (W 40 rfl)) (mvT hZ (W 41 rfl)) (by decide) (backOf (W := 0) (rmc3L3 l Z a0 G1 fm hG [] b ka c0 c1 c2 h0 n0 Z0 X00 V_b (by first | assumption | decide | rfl) (by first | assumption | decide | rfl) (by first | assumption | decide | rfl)) hZ (W 41 rfl) (W 40 rfl) (by decide) (by decide)) (g := (mkF m 36 #[.val (.ref a1), .val (.ref b), .val (.int 0), .val (.int 3), .val .null, .unset] [.int 3, .int 0, .ref b])) rfl (by rw [hml]; rfl) (argsL := [.ref b, .int 0, .int 3]) (rest := []) (lenOf pd___CII__B rfl) rfl (by show 2 * 0 + _ ≤ _; exact Nat.le_of_eq rfl) (hB d18_36) (fun _ _ => ⟨rfl, e256, (by decide : 0 + 1 ≤ _), (by decide : 0 + 3 ≤ _)⟩)
  dsimp only [Pt.U, Pt.locs, Pt.cells, Pt.slots] at X257 l257 y257 z257 st257 hQ257
  subst l257 y257 z257
  obtain ⟨b_257, kb_257, rfl, N257q, K257, f257_0, f257_1⟩ := hQ257
  have N257 := Fr.app N0 N257q
  have Z258 : n0 ≤ T257.heap.size := Nat.le_trans Z0 K257.1
  have K0_258 : Keep h0 T257.heap [a1] := (Keep.refl h0 [a1]).trans K257 all0
  have O258 : Old Z n0 T257.heap := X00.keep K257 all0
  have lo_b_257 : h0.size ≤ b_257 := f257_0
  have g_b_257 : n0 ≤ b_257 := Nat.le_trans Z0 lo_b_257
  have l0_b_257 : h0.size ≤ b_257 := Nat.le_trans (Keep.refl h0 [a1]).1 lo_b_257
  -- pc 45: java/lang/StringUTF16.coderFromArrayLen
  obtain ⟨_, _, ⟨T259, L259, k259, n259⟩, -, X259, ⟨Lc259, hQ259, l259, y259, z259⟩, st259⟩ := Jvm.LawKit.callS X257 hx (y := y17) hown (mvT hZ (W 45 rfl)) (mvT hZ (W 46 rfl)) (mvT hZ (W 40 rfl)) (mvT hZ (W 47 rfl)) (by decide) (backOf (W := 1) (rmcfaL3 l Z a0 G1 fm hG [] b_257 kb_257 ([(.int ((c0.toInt8.toInt32).toInt8.toInt32)), (.int ((c1.toInt8.toInt32).toInt8.toInt32)), (.int ((c2.toInt8.toInt32).toInt8.toInt32))] : List Value) T257.heap n0 Z258 O258 f257_1) hZ (W 47 rfl) (W 40 rfl) (by decide) (by decide)) (g := (mkF m 45 #[.val (.ref a1), .val (.ref b), .val (.int 0), .val (.int 3), .val .null, .val (.ref b_257)] [.int 3, .ref b_257, .ref a1])) rfl (by rw [hml]; rfl) (argsL := [.ref b_257, .int 3]) (rest := [.ref a1]) (lenOf pd___BI_B rfl) rfl (by show 2 * 0 + _ ≤ _; exact Nat.le_of_eq rfl) (hB d18_45) (fun _ _ => ⟨rfl, rfl, (by decide : 1 + 0 ≤ _), (by decide : 3 + 0 ≤ _)⟩)
  dsimp only [Pt.U, Pt.locs, Pt.cells, Pt.slots] at X259 l259 y259 z259 st259 hQ259
  subst l259 y259 z259
  obtain ⟨rfl, N259q, eq259⟩ := hQ259
  have N259 := Fr.app N257 N259q
  have f260 := (E_a1.keep K257)
  have f261 := (F_coder_a1.keep K257 nin0)
  obtain ⟨T262, h262, X262, e262, W262, st262⟩ := putF X259 hx hZ hown (host := "") (Or.inl (W 22 rfl)) Via.refl eq259 f261 f260 (Or.inr ⟨(W 18 rfl), rfl, hnm⟩) (W 3 rfl) (ty := .byte) (by decide) rfl rfl (g := (mkF m 48 #[.val (.ref a1), .val (.ref b), .val (.int 0), .val (.int 3), .val .null, .val (.ref b_257)] [.int 0, .ref a1])) rfl rfl (hB d18_48)
  have Fw262 := f261.same W262
  have Z263 : n0 ≤ h262.size := Nat.le_trans Z258 (Keep.of_wr W262).1
  have K0_263 : Keep h0 h262 [a1] := K0_258.wr W262 (Or.inl (List.mem_of_getElem? (i := 0) rfl))
  have O263 : Old Z n0 h262 := O258.wr W262 g_a1
  have N262 := Fr.snoc X262 N259 g_a1
  have f264 := (f260.wr W262)
  have f265 := ((F_value_a1.keep K257 nin0).other W262 (Or.inr (slot_ne (Or.inr (W 17 rfl)) (Or.inr (W 18 rfl)) (by decide) (t := (.array .byte)) (t' := .byte) (by decide) (by decide))))
  obtain ⟨T266, h266, X266, e266, W266, st266⟩ := putF X262 hx hZ hown (host := "") (Or.inl (W 21 rfl)) Via.refl e262 f265 f264 (Or.inr ⟨(W 17 rfl), rfl, hnm⟩) (W 3 rfl) (ty := (.array .byte)) (by decide) rfl rfl (g := (mkF m 54 #[.val (.ref a1), .val (.ref b), .val (.int 0), .val (.int 3), .val .null, .val (.ref b_257)] [.ref b_257, .ref a1])) rfl rfl (hB d18_54)
  have Fw266 := f265.same W266
  have Z267 : n0 ≤ h266.size := Nat.le_trans Z263 (Keep.of_wr W266).1
  have K0_267 : Keep h0 h266 [a1] := K0_263.wr W266 (Or.inl (List.mem_of_getElem? (i := 0) rfl))
  have O267 : Old Z n0 h266 := O263.wr W266 g_a1
  have N266 := Fr.snoc X266 N262 g_a1
  have f268 := (f264.wr W266)
  have f269 := (Fw262.other W266 (Or.inr (slot_ne (Or.inr (W 18 rfl)) (Or.inr (W 17 rfl)) (by decide) (t := .byte) (t' := (.array .byte)) (by decide) (by decide))))
  have f270 := ((f257_1.other W262 (Ne.symm (Nat.ne_of_lt (Nat.lt_of_lt_of_le E_a1.lt lo_b_257)))).other W266 (Ne.symm (Nat.ne_of_lt (Nat.lt_of_lt_of_le E_a1.lt lo_b_257))))
  obtain ⟨fs, hr, hrun, hended, hW, hsame⟩ := X266.leave (v := none) (fun _ => rfl)
  refine ⟨_, _, castTop (ef_jdk_42_method_149_code_RRIIN m a1 b (0 : Int32) (3 : Int32)) ?_, hrun, hended, _, _, rfl, ?_, ⟨_, rfl⟩, hW, hsame.mono (own_ble rfl) (own_ble rfl)⟩
  · show Steps _ _ _ (s₁.setTop (mkF m 0 #[.val (.ref a1), .val (.ref b), .val (.int 0), .val (.int 3), .val .null, .unset] [])) _
    refine XS.aloadN X0.here hx rfl (hB d18_0) rfl rfl ?_
    refine st255 _ ?_
    show Steps _ _ _ (T255.setTop (mkF m 4 #[.val (.ref a1), .val (.ref b), .val (.int 0), .val (.int 3), .val .null, .unset] [])) _
    refine XS.iloadN X255.here hx rfl (hB d18_4) rfl ?_
    refine XS.ifYes X255.here hx rfl (pc0 := 5) (pc' := 27) rfl (hB d18_5) rfl ((if0 _ _).trans (feq (by decide : ¬ ((3 : Int32) = (0 : Int32)))).2) (by decide) (by decide) ?_
    refine st256 _ ?_
    show Steps _ _ _ (T256.setTop (mkF m 30 #[.val (.ref a1), .val (.ref b), .val (.int 0), .val (.int 3), .val .null, .unset] [.int G1])) _
    refine XS.ifNo X256.here hx rfl (hB d18_30) rfl ((if0 _ _).trans (feq (P_cs : ¬ (G1 = (0 : Int32)))).1) ?_
    refine XS.aloadN X256.here hx rfl (hB d18_33) rfl rfl ?_
    refine XS.iloadN X256.here hx rfl (hB d18_34) rfl ?_
    refine XS.iloadN X256.here hx rfl (hB d18_35) rfl ?_
    refine st257 _ ?_
    show Steps _ _ _ (T257.setTop (mkF m 39 #[.val (.ref a1), .val (.ref b), .val (.int 0), .val (.int 3), .val .null, .unset] [.ref b_257])) _
    refine XS.astore X257.here hx rfl (hB d18_39) rfl rfl (l' := #[.val (.ref a1), .val (.ref b), .val (.int 0), .val (.int 3), .val .null, .val (.ref b_257)]) rfl ?_
    refine XS.aloadN X257.here hx rfl (hB d18_41) rfl rfl ?_
    refine XS.aload X257.here hx rfl (hB d18_42) rfl rfl ?_
    refine XS.iloadN X257.here hx rfl (hB d18_44) rfl ?_
    refine st259 _ ?_
    show Steps _ _ _ (T259.setTop (mkF m 48 #[.val (.ref a1), .val (.ref b), .val (.int 0), .val (.int 3), .val .null, .val (.ref b_257)] [.int 0, .ref a1])) _
    refine st262 _ ?_
    show Steps _ _ _ (T262.setTop (mkF m 51 #[.val (.ref a1), .val (.ref b), .val (.int 0), .val (.int 3), .val .null, .val (.ref b_257)] [])) _
    refine XS.aloadN X262.here hx rfl (hB d18_51) rfl rfl ?_
    refine XS.aload X262.here hx rfl (hB d18_52) rfl rfl ?_
    refine st266 _ ?_
    show Steps _ _ _ (T266.setTop (mkF m 57 #[.val (.ref a1), .val (.ref b), .val (.int 0), .val (.int 3), .val .null, .val (.ref b_257)] [])) _
    exact X266.returnOut hx Bd.returns (hB d18_57) hr
  · show QviL3 Z G1 fm a1 b ka c0 c1 c2 h0 n0 _ T266.heap _
    rw [e266]
    exact ⟨b_257, kb_257, rfl, N266, K0_267, f268, f269, Fw266, f270⟩
def QcfaW3 (Z : State) (G1 : Int32) (fm : Value) (b : Addr) (kb : ClassId) (vs : List Value) (h0 : Heap) (n0 : Nat) (v : Option Value) (h : Heap) (L : List Loc) : Prop := v = some (.int 1) ∧ Fr n0 L ∧ h = h0
theorem rmcfaW3 (l : Launch) (Z : State) (a0 : Array Value) (G1 : Int32) (fm : Value) (hG : Glob Z a0 G1 fm) (ws : List Jvm.Cond) (b : Addr) (kb : ClassId) (vs : List Value) (h0 : Heap) (n0 : Nat) (Z0 : n0 ≤ h0.size) (X00 : Old Z n0 h0) (V_b : Arv Z h0 b kb .byte (6 : Int32) vs (.int 0)) :
    Met l Z h0 y17 jdk_52_method_15_code 2 (some .byte) ws (Room.mk 0 0 0 0) #[.ref b, .int 3] (QcfaW3 Z G1 fm b kb vs h0 n0) := by
  obtain ⟨hw, O_cs, P_cs, O_as, O_hi, O_lo, O_fm, R_fm⟩ := id hG
  have W := @own_W _ _ hw
  refine own_go "java/lang/StringUTF16" rfl (plainFor_of_name pn_java_lang_StringUTF16) ?_
  intro p e s m below meth c s₁ Bd hx hby hml hown hnm X0 e0 hZ
  have hB := @hb _ _ hby
  have N0 := Fr.nil n0
  obtain ⟨clq274, Arq274, qaq274, Sq274, Nq274, Hq274, Gq274⟩ := id V_b
  obtain ⟨fs, hr, hrun, hended, hW, hsame⟩ := X0.leave (v := some (.int 1)) (fun h => by rw [Bd.returns] at h; cases h)
  refine ⟨_, _, castTop (ef_jdk_52_method_15_code_RI m b (3 : Int32)) ?_, hrun, hended, _, _, rfl, ?_, ⟨_, rfl⟩, hW, hsame.mono (own_ble rfl) (own_ble rfl)⟩
  · show Steps _ _ _ (s₁.setTop (mkF m 0 #[.val (.ref b), .val (.int 3)] [])) _
    refine XS.iloadN X0.here hx rfl (hB d17_0) rfl ?_
    refine XS.aloadN X0.here hx rfl (hB d17_1) rfl rfl ?_
    refine X0.arraylength hx (own_cell e0 Arq274.1) (State.isArrayOf_alike hZ.alike Arq274.2.1) (g := (mkF m 2 #[.val (.ref b), .val (.int 3)] [.ref b, .int 3])) rfl rfl (hB d17_2) _ ?_
    rw [len_of Sq274 Nq274]
    refine XS.isub X0.here hx rfl (hB d17_3) rfl ?_
    refine XS.bipush X0.here hx rfl (hB d17_4) ?_
    refine XS.iushr X0.here hx rfl (hB d17_6) rfl ?_
    refine XS.i2b X0.here hx rfl (hB d17_7) rfl ?_
    exact retN X0 hx (t := .byte) Bd.returns (by simp) (hB d17_8) hr
  · show QcfaW3 Z G1 fm b kb vs h0 n0 _ s₁.heap _
    rw [e0]
    exact ⟨rfl, N0, rfl⟩
def QviW3 (Z : State) (G1 : Int32) (fm : Value) (a1 : Addr) (b : Addr) (ka : ClassId) (c0 : Int32) (c1 : Int32) (c2 : Int32) (h0 : Heap) (n0 : Nat) (v : Option Value) (h : Heap) (L : List Loc) : Prop := ∃ t : Addr, ∃ kb : ClassId, v = none ∧ Fr n0 L ∧ Keep h0 h [a1] ∧ Exa Z h a1 "java/lang/String" ∧ Fld Z h a1 "java/lang/String" "coder" "B" (.int 1) ∧ Fld Z h a1 "java/lang/String" "value" "[B" (.ref t) ∧ Arv Z h t kb .byte (6 : Int32) [(.int (((c0 >>> ((0 : Int32) &&& 31)).toInt8.toInt32).toInt8.toInt32)), (.int (((c0 >>> ((8 : Int32) &&& 31)).toInt8.toInt32).toInt8.toInt32)), (.int (((c1 >>> ((0 : Int32) &&& 31)).toInt8.toInt32).toInt8.toInt32)), (.int (((c1 >>> ((8 : Int32) &&& 31)).toInt8.toInt32).toInt8.toInt32)), (.int (((c2 >>> ((0 : Int32) &&& 31)).toInt8.toInt32).toInt8.toInt32)), (.int (((c2 >>> ((8 : Int32) &&& 31)).toInt8.toInt32).toInt8.toInt32))] (.int 0)
theorem rmviW3 (l : Launch) (Z : State) (a0 : Array Value) (G1 : Int32) (fm : Value) (hG : Glob Z a0 G1 fm) (ws : List Jvm.Cond) (a1 : Addr) (b : Addr) (ka : ClassId) (c0 : Int32) (c1 : Int32) (c2 : Int32) (h0 : Heap) (n0 : Nat) (Z0 : n0 ≤ h0.size) (X00 : Old Z n0 h0) (E_a1 : Exa Z h0 a1 "java/lang/String") (g_a1 : n0 ≤ a1) (F_value_a1 : Fld Z h0 a1 "java/lang/String" "value" "[B" .null) (F_coder_a1 : Fld Z h0 a1 "java/lang/String" "coder" "B" (.int 0)) (V_b : Arv Z h0 b ka .char (3 : Int32) [.int c0, .int c1, .int c2] (.int 0)) (ne_b_a1 : b ≠ a1) (hwid : ¬ (¬ ((255 : Int32) < c0) ∧ ¬ ((255 : Int32) < c1) ∧ ¬ ((255 : Int32) < c2))) (hu : ∀ c ∈ ([c0, c1, c2] : List Int32), own_u16 c) :
    Met l Z h0 y18 jdk_42_method_149_code 6 none ws (Room.mk 4 2 9 57) #[.ref a1, .ref b, .int 0, .int 3, .null] (QviW3 Z G1 fm a1 b ka c0 c1 c2 h0 n0) := by
  obtain ⟨hw, O_cs, P_cs, O_as, O_hi, O_lo, O_fm, R_fm⟩ := id hG
  have W := @own_W _ _ hw
  refine own_go "java/lang/String" rfl (plainFor_of_name pn_java_lang_String) ?_
  intro p e s m below meth c s₁ Bd hx hby hml hown hnm X0 e0 hZ
  have hB := @hb _ _ hby
  have N0 := Fr.nil n0
  obtain ⟨T275, X275, e275, st275⟩ := initO X0 hx hZ hown (W 12 rfl) (W 13 rfl) (W 14 rfl) e0 (g := (mkF m 1 #[.val (.ref a1), .val (.ref b), .val (.int 0), .val (.int 3), .val .null, .unset] [.ref a1])) rfl (by rw [hml]; rfl) rfl (hB d18_1) (by decide) (W := 0) (by show 2 * 0 + _ ≤ _; exact Nat.le_of_eq rfl) (by decide)
  obtain ⟨T276, X276, e276, st276⟩ := getS2 X275 hx hZ hown (host := "") (Or.inl (W 37 rfl)) Via.refl e275 (O_cs.ext X00.2) (g := (mkF m 27 #[.val (.ref a1), .val (.ref b), .val (.int 0), .val (.int 3), .val .null, .unset] [])) rfl (hB d18_27)
  -- pc 36: java/lang/StringUTF16.compress
  obtain ⟨_, _, ⟨T277, L277, k277, n277⟩, -, X277, ⟨Lc277, hQ277, l277, y277, z277⟩, st277⟩ := Jvm.LawKit.callS X276 hx (y := y16) hown (mvT hZ (W 38 rfl)) (mvT hZ (W 39 rfl)) (mvT hZ (W 40 rfl)) (mvT hZ (W 41 rfl)) (by decide) (backOf (W := 0) (rmc3W3 l Z a0 G1 fm hG [] b ka c0 c1 c2 h0 n0 Z0 X00 V_b (by first | assumption | decide | rfl) (by first | assumption | decide | rfl)) hZ (W 41 rfl) (W 40 rfl) (by decide) (by decide)) (g := (mkF m 36 #[.val (.ref a1), .val (.ref b), .val (.int 0), .val (.int 3), .val .null, .unset] [.int 3, .int 0, .ref b])) rfl (by rw [hml]; rfl) (argsL := [.ref b, .int 0, .int 3]) (rest := []) (lenOf pd___CII__B rfl) rfl (by show 2 * 0 + _ ≤ _; exact Nat.le_of_eq rfl) (hB d18_36) (fun _ _ => ⟨rfl, e276, (by decide : 0 + 2 ≤ _), (by decide : 0 + 9 ≤ _)⟩)
  dsimp only [Pt.U, Pt.locs, Pt.cells, Pt.slots] at X277 l277 y277 z277 st277 hQ277
  subst l277 y277 z277
  obtain ⟨b_277, kb_277, rfl, N277q, K277, f277_0, f277_1⟩ := hQ277
  have N277 := Fr.app N0 N277q
  have Z278 : n0 ≤ T277.heap.size := Nat.le_trans Z0 K277.1
  have K0_278 : Keep h0 T277.heap [a1] := (Keep.refl h0 [a1]).trans K277 all0
  have O278 : Old Z n0 T277.heap := X00.keep K277 all0
  have lo_b_277 : h0.size ≤ b_277 := f277_0
  have g_b_277 : n0 ≤ b_277 := Nat.le_trans Z0 lo_b_277
  have l0_b_277 : h0.size ≤ b_277 := Nat.le_trans (Keep.refl h0 [a1]).1 lo_b_277
  -- pc 45: java/lang/StringUTF16.coderFromArrayLen
  obtain ⟨_, _, ⟨T279, L279, k279, n279⟩, -, X279, ⟨Lc279, hQ279, l279, y279, z279⟩, st279⟩ := Jvm.LawKit.callS X277 hx (y := y17) hown (mvT hZ (W 45 rfl)) (mvT hZ (W 46 rfl)) (mvT hZ (W 40 rfl)) (mvT hZ (W 47 rfl)) (by decide) (backOf (W := 1) (rmcfaW3 l Z a0 G1 fm hG [] b_277 kb_277 ([(.int (((c0 >>> ((0 : Int32) &&& 31)).toInt8.toInt32).toInt8.toInt32)), (.int (((c0 >>> ((8 : Int32) &&& 31)).toInt8.toInt32).toInt8.toInt32)), (.int (((c1 >>> ((0 : Int32) &&& 31)).toInt8.toInt32).toInt8.toInt32)), (.int (((c1 >>> ((8 : Int32) &&& 31)).toInt8.toInt32).toInt8.toInt32)), (.int (((c2 >>> ((0 : Int32) &&& 31)).toInt8.toInt32).toInt8.toInt32)), (.int (((c2 >>> ((8 : Int32) &&& 31)).toInt8.toInt32).toInt8.toInt32))] : List Value) T277.heap n0 Z278 O278 f277_1) hZ (W 47 rfl) (W 40 rfl) (by decide) (by decide)) (g := (mkF m 45 #[.val (.ref a1), .val (.ref b), .val (.int 0), .val (.int 3), .val .null, .val (.ref b_277)] [.int 3, .ref b_277, .ref a1])) rfl (by rw [hml]; rfl) (argsL := [.ref b_277, .int 3]) (rest := [.ref a1]) (lenOf pd___BI_B rfl) rfl (by show 2 * 0 + _ ≤ _; exact Nat.le_of_eq rfl) (hB d18_45) (fun _ _ => ⟨rfl, rfl, (by decide : 2 + 0 ≤ _), (by decide : 9 + 0 ≤ _)⟩)
  dsimp only [Pt.U, Pt.locs, Pt.cells, Pt.slots] at X279 l279 y279 z279 st279 hQ279
  subst l279 y279 z279
  obtain ⟨rfl, N279q, eq279⟩ := hQ279
  have N279 := Fr.app N277 N279q
  have f280 := (E_a1.keep K277)
  have f281 := (F_coder_a1.keep K277 nin0)
  obtain ⟨T282, h282, X282, e282, W282, st282⟩ := putF X279 hx hZ hown (host := "") (Or.inl (W 22 rfl)) Via.refl eq279 f281 f280 (Or.inr ⟨(W 18 rfl), rfl, hnm⟩) (W 3 rfl) (ty := .byte) (by decide) rfl rfl (g := (mkF m 48 #[.val (.ref a1), .val (.ref b), .val (.int 0), .val (.int 3), .val .null, .val (.ref b_277)] [.int 1, .ref a1])) rfl rfl (hB d18_48)
  have Fw282 := f281.same W282
  have Z283 : n0 ≤ h282.size := Nat.le_trans Z278 (Keep.of_wr W282).1
  have K0_283 : Keep h0 h282 [a1] := K0_278.wr W282 (Or.inl (List.mem_of_getElem? (i := 0) rfl))
  have O283 : Old Z n0 h282 := O278.wr W282 g_a1
  have N282 := Fr.snoc X282 N279 g_a1
  have f284 := (f280.wr W282)
  have f285 := ((F_value_a1.keep K277 nin0).other W282 (Or.inr (slot_ne (Or.inr (W 17 rfl)) (Or.inr (W 18 rfl)) (by decide) (t := (.array .byte)) (t' := .byte) (by decide) (by decide))))
  obtain ⟨T286, h286, X286, e286, W286, st286⟩ := putF X282 hx hZ hown (host := "") (Or.inl (W 21 rfl)) Via.refl e282 f285 f284 (Or.inr ⟨(W 17 rfl), rfl, hnm⟩) (W 3 rfl) (ty := (.array .byte)) (by decide) rfl rfl (g := (mkF m 54 #[.val (.ref a1), .val (.ref b), .val (.int 0), .val (.int 3), .val .null, .val (.ref b_277)] [.ref b_277, .ref a1])) rfl rfl (hB d18_54)
  have Fw286 := f285.same W286
  have Z287 : n0 ≤ h286.size := Nat.le_trans Z283 (Keep.of_wr W286).1
  have K0_287 : Keep h0 h286 [a1] := K0_283.wr W286 (Or.inl (List.mem_of_getElem? (i := 0) rfl))
  have O287 : Old Z n0 h286 := O283.wr W286 g_a1
  have N286 := Fr.snoc X286 N282 g_a1
  have f288 := (f284.wr W286)
  have f289 := (Fw282.other W286 (Or.inr (slot_ne (Or.inr (W 18 rfl)) (Or.inr (W 17 rfl)) (by decide) (t := .byte) (t' := (.array .byte)) (by decide) (by decide))))
  have f290 := ((f277_1.other W282 (Ne.symm (Nat.ne_of_lt (Nat.lt_of_lt_of_le E_a1.lt lo_b_277)))).other W286 (Ne.symm (Nat.ne_of_lt (Nat.lt_of_lt_of_le E_a1.lt lo_b_277))))
  obtain ⟨fs, hr, hrun, hended, hW, hsame⟩ := X286.leave (v := none) (fun _ => rfl)
  refine ⟨_, _, castTop (ef_jdk_42_method_149_code_RRIIN m a1 b (0 : Int32) (3 : Int32)) ?_, hrun, hended, _, _, rfl, ?_, ⟨_, rfl⟩, hW, hsame.mono (own_ble rfl) (own_ble rfl)⟩
  · show Steps _ _ _ (s₁.setTop (mkF m 0 #[.val (.ref a1), .val (.ref b), .val (.int 0), .val (.int 3), .val .null, .unset] [])) _
    refine XS.aloadN X0.here hx rfl (hB d18_0) rfl rfl ?_
    refine st275 _ ?_
    show Steps _ _ _ (T275.setTop (mkF m 4 #[.val (.ref a1), .val (.ref b), .val (.int 0), .val (.int 3), .val .null, .unset] [])) _
    refine XS.iloadN X275.here hx rfl (hB d18_4) rfl ?_
    refine XS.ifYes X275.here hx rfl (pc0 := 5) (pc' := 27) rfl (hB d18_5) rfl ((if0 _ _).trans (feq (by decide : ¬ ((3 : Int32) = (0 : Int32)))).2) (by decide) (by decide) ?_
    refine st276 _ ?_
    show Steps _ _ _ (T276.setTop (mkF m 30 #[.val (.ref a1), .val (.ref b), .val (.int 0), .val (.int 3), .val .null, .unset] [.int G1])) _
    refine XS.ifNo X276.here hx rfl (hB d18_30) rfl ((if0 _ _).trans (feq (P_cs : ¬ (G1 = (0 : Int32)))).1) ?_
    refine XS.aloadN X276.here hx rfl (hB d18_33) rfl rfl ?_
    refine XS.iloadN X276.here hx rfl (hB d18_34) rfl ?_
    refine XS.iloadN X276.here hx rfl (hB d18_35) rfl ?_
    refine st277 _ ?_
    show Steps _ _ _ (T277.setTop (mkF m 39 #[.val (.ref a1), .val (.ref b), .val (.int 0), .val (.int 3), .val .null, .unset] [.ref b_277])) _
    refine XS.astore X277.here hx rfl (hB d18_39) rfl rfl (l' := #[.val (.ref a1), .val (.ref b), .val (.int 0), .val (.int 3), .val .null, .val (.ref b_277)]) rfl ?_
    refine XS.aloadN X277.here hx rfl (hB d18_41) rfl rfl ?_
    refine XS.aload X277.here hx rfl (hB d18_42) rfl rfl ?_
    refine XS.iloadN X277.here hx rfl (hB d18_44) rfl ?_
    refine st279 _ ?_
    show Steps _ _ _ (T279.setTop (mkF m 48 #[.val (.ref a1), .val (.ref b), .val (.int 0), .val (.int 3), .val .null, .val (.ref b_277)] [.int 1, .ref a1])) _
    refine st282 _ ?_
    show Steps _ _ _ (T282.setTop (mkF m 51 #[.val (.ref a1), .val (.ref b), .val (.int 0), .val (.int 3), .val .null, .val (.ref b_277)] [])) _
    refine XS.aloadN X282.here hx rfl (hB d18_51) rfl rfl ?_
    refine XS.aload X282.here hx rfl (hB d18_52) rfl rfl ?_
    refine st286 _ ?_
    show Steps _ _ _ (T286.setTop (mkF m 57 #[.val (.ref a1), .val (.ref b), .val (.int 0), .val (.int 3), .val .null, .val (.ref b_277)] [])) _
    exact X286.returnOut hx Bd.returns (hB d18_57) hr
  · show QviW3 Z G1 fm a1 b ka c0 c1 c2 h0 n0 _ T286.heap _
    rw [e286]
    exact ⟨b_277, kb_277, rfl, N286, K0_287, f288, f289, Fw286, f290⟩
theorem own_all3 {P : Int32 → Prop} {c0 : Int32} {c1 : Int32} {c2 : Int32} (h0 : P c0) (h1 : P c1) (h2 : P c2) : ∀ c ∈ ([c0, c1, c2] : List Int32), P c := by
  intro c hc
  simp only [List.mem_cons, List.not_mem_nil, or_false] at hc
  rcases hc with rfl | rfl | rfl <;> assumption
def Qini3 (Z : State) (G1 : Int32) (fm : Value) (a1 : Addr) (b : Addr) (ka : ClassId) (c0 : Int32) (c1 : Int32) (c2 : Int32) (h0 : Heap) (n0 : Nat) (v : Option Value) (h : Heap) (L : List Loc) : Prop := ∃ t : Addr, ∃ kb : ClassId, ∃ cd : Int32, ∃ z : Int32, ∃ vs : List Value, v = none ∧ Fr n0 L ∧ Keep h0 h [a1] ∧ Exa Z h a1 "java/lang/String" ∧ Fld Z h a1 "java/lang/String" "coder" "B" (.int cd) ∧ Fld Z h a1 "java/lang/String" "value" "[B" (.ref t) ∧ Arv Z h t kb .byte z vs (.int 0) ∧ own_str cd z vs [c0, c1, c2]
theorem rmini3_L (l : Launch) (Z : State) (a0 : Array Value) (G1 : Int32) (fm : Value) (hG : Glob Z a0 G1 fm) (ws : List Jvm.Cond) (a1 : Addr) (b : Addr) (ka : ClassId) (c0 : Int32) (c1 : Int32) (c2 : Int32) (h0 : Heap) (n0 : Nat) (Z0 : n0 ≤ h0.size) (X00 : Old Z n0 h0) (E_a1 : Exa Z h0 a1 "java/lang/String") (g_a1 : n0 ≤ a1) (F_value_a1 : Fld Z h0 a1 "java/lang/String" "value" "[B" .null) (F_coder_a1 : Fld Z h0 a1 "java/lang/String" "coder" "B" (.int 0)) (V_b : Arv Z h0 b ka .char (3 : Int32) [.int c0, .int c1, .int c2] (.int 0)) (ne_b_a1 : b ≠ a1) (hl0 : ¬ ((255 : Int32) < c0)) (hl1 : ¬ ((255 : Int32) < c1)) (hl2 : ¬ ((255 : Int32) < c2)) :
    Met l Z h0 y19 jdk_42_method_3_code 2 none ws (Room.mk 5 2 9 74) #[.ref a1, .ref b] (Qini3 Z G1 fm a1 b ka c0 c1 c2 h0 n0) := by
  obtain ⟨hw, O_cs, P_cs, O_as, O_hi, O_lo, O_fm, R_fm⟩ := id hG
  have W := @own_W _ _ hw
  refine own_go "java/lang/String" rfl (plainFor_of_name pn_java_lang_String) ?_
  intro p e s m below meth c s₁ Bd hx hby hml hown hnm X0 e0 hZ
  have hB := @hb _ _ hby
  have N0 := Fr.nil n0
  obtain ⟨clq271, Arq271, qaq271, Sq271, Nq271, Hq271, Gq271⟩ := id V_b
  -- pc 6: java/lang/String.<init>
  obtain ⟨_, _, ⟨T272, L272, k272, n272⟩, -, X272, ⟨Lc272, hQ272, l272, y272, z272⟩, st272⟩ := X0.specialBack hx (y := y18) rfl hown (mvT hZ (W 8 rfl)) (mvT hZ (W 9 rfl)) (mvT hZ (W 11 rfl)) (by decide) (backOf (W := 0) (rmviL3 l Z a0 G1 fm hG [] a1 b ka c0 c1 c2 h0 n0 Z0 X00 E_a1 g_a1 F_value_a1 F_coder_a1 V_b ne_b_a1 (by first | assumption | decide | rfl) (by first | assumption | decide | rfl) (by first | assumption | decide | rfl)) hZ (W 11 rfl) (W 4 rfl) (by decide) (by decide)) (g := (mkF m 6 #[.val (.ref a1), .val (.ref b)] [.null, .int 3, .int 0, .ref b, .ref a1])) rfl (by rw [hml]; rfl) (Steps.refl _) (a := a1) (argsL := [.ref b, .int 0, .int 3, .null]) (rest := []) (lenOf pd___CIILjava_lang_Void__V rfl) rfl (by show 2 * 0 + _ ≤ _; exact Nat.le_of_eq rfl) (hB d19_6) (fun _ _ => ⟨rfl, e0, (by decide : 0 + 1 ≤ _), (by decide : 0 + 3 ≤ _)⟩)
  dsimp only [Pt.U, Pt.locs, Pt.cells, Pt.slots] at X272 l272 y272 z272 st272 hQ272
  subst l272 y272 z272
  obtain ⟨t_272, kb_272, rfl, N272q, K272, f272_0, f272_1, f272_2, f272_3⟩ := hQ272
  have N272 := Fr.app N0 N272q
  have Z273 : n0 ≤ T272.heap.size := Nat.le_trans Z0 K272.1
  have K0_273 : Keep h0 T272.heap [a1] := (Keep.refl h0 [a1]).trans K272 (allS (Or.inl (List.mem_of_getElem? (i := 0) rfl)) all0)
  have O273 : Old Z n0 T272.heap := X00.keep K272 (allS g_a1 all0)
  obtain ⟨fs, hr, hrun, hended, hW, hsame⟩ := X272.leave (v := none) (fun _ => rfl)
  refine ⟨_, _, castTop (ef_jdk_42_method_3_code_RR m a1 b) ?_, hrun, hended, _, _, rfl, ?_, ⟨_, rfl⟩, hW, hsame.mono (own_ble rfl) (own_ble rfl)⟩
  · show Steps _ _ _ (s₁.setTop (mkF m 0 #[.val (.ref a1), .val (.ref b)] [])) _
    refine XS.aloadN X0.here hx rfl (hB d19_0) rfl rfl ?_
    refine XS.aloadN X0.here hx rfl (hB d19_1) rfl rfl ?_
    refine XS.iconst X0.here hx rfl (hB d19_2) ?_
    refine XS.aloadN X0.here hx rfl (hB d19_3) rfl rfl ?_
    refine X0.arraylength hx (own_cell e0 Arq271.1) (State.isArrayOf_alike hZ.alike Arq271.2.1) (g := (mkF m 4 #[.val (.ref a1), .val (.ref b)] [.ref b, .int 0, .ref b, .ref a1])) rfl rfl (hB d19_4) _ ?_
    rw [len_of Sq271 Nq271]
    refine XS.aconstNull X0.here hx rfl (hB d19_5) ?_
    refine st272.trans ?_
    show Steps _ _ _ (T272.setTop (mkF m 9 #[.val (.ref a1), .val (.ref b)] [])) _
    exact X272.returnOut hx Bd.returns (hB d19_9) hr
  · show Qini3 Z G1 fm a1 b ka c0 c1 c2 h0 n0 _ T272.heap _
    exact ⟨t_272, kb_272, (0 : Int32), (3 : Int32), _, rfl, N272, K0_273, f272_0, f272_1, f272_2, f272_3, Or.inl ⟨rfl, rfl, rfl, own_all3 hl0 hl1 hl2⟩⟩
theorem rmini3_W (l : Launch) (Z : State) (a0 : Array Value) (G1 : Int32) (fm : Value) (hG : Glob Z a0 G1 fm) (ws : List Jvm.Cond) (a1 : Addr) (b : Addr) (ka : ClassId) (c0 : Int32) (c1 : Int32) (c2 : Int32) (h0 : Heap) (n0 : Nat) (Z0 : n0 ≤ h0.size) (X00 : Old Z n0 h0) (E_a1 : Exa Z h0 a1 "java/lang/String") (g_a1 : n0 ≤ a1) (F_value_a1 : Fld Z h0 a1 "java/lang/String" "value" "[B" .null) (F_coder_a1 : Fld Z h0 a1 "java/lang/String" "coder" "B" (.int 0)) (V_b : Arv Z h0 b ka .char (3 : Int32) [.int c0, .int c1, .int c2] (.int 0)) (ne_b_a1 : b ≠ a1) (hwid : ¬ (¬ ((255 : Int32) < c0) ∧ ¬ ((255 : Int32) < c1) ∧ ¬ ((255 : Int32) < c2))) (hu : ∀ c ∈ ([c0, c1, c2] : List Int32), own_u16 c) :
    Met l Z h0 y19 jdk_42_method_3_code 2 none ws (Room.mk 5 2 9 74) #[.ref a1, .ref b] (Qini3 Z G1 fm a1 b ka c0 c1 c2 h0 n0) := by
  obtain ⟨hw, O_cs, P_cs, O_as, O_hi, O_lo, O_fm, R_fm⟩ := id hG
  have W := @own_W _ _ hw
  refine own_go "java/lang/String" rfl (plainFor_of_name pn_java_lang_String) ?_
  intro p e s m below meth c s₁ Bd hx hby hml hown hnm X0 e0 hZ
  have hB := @hb _ _ hby
  have N0 := Fr.nil n0
  obtain ⟨clq291, Arq291, qaq291, Sq291, Nq291, Hq291, Gq291⟩ := id V_b
  -- pc 6: java/lang/String.<init>
  obtain ⟨_, _, ⟨T292, L292, k292, n292⟩, -, X292, ⟨Lc292, hQ292, l292, y292, z292⟩, st292⟩ := X0.specialBack hx (y := y18) rfl hown (mvT hZ (W 8 rfl)) (mvT hZ (W 9 rfl)) (mvT hZ (W 11 rfl)) (by decide) (backOf (W := 0) (rmviW3 l Z a0 G1 fm hG [] a1 b ka c0 c1 c2 h0 n0 Z0 X00 E_a1 g_a1 F_value_a1 F_coder_a1 V_b ne_b_a1 (by first | assumption | decide | rfl) (by first | assumption | decide | rfl)) hZ (W 11 rfl) (W 4 rfl) (by decide) (by decide)) (g := (mkF m 6 #[.val (.ref a1), .val (.ref b)] [.null, .int 3, .int 0, .ref b, .ref a1])) rfl (by rw [hml]; rfl) (Steps.refl _) (a := a1) (argsL := [.ref b, .int 0, .int 3, .null]) (rest := []) (lenOf pd___CIILjava_lang_Void__V rfl) rfl (by show 2 * 0 + _ ≤ _; exact Nat.le_of_eq rfl) (hB d19_6) (fun _ _ => ⟨rfl, e0, (by decide : 0 + 2 ≤ _), (by decide : 0 + 9 ≤ _)⟩)
  dsimp only [Pt.U, Pt.locs, Pt.cells, Pt.slots] at X292 l292 y292 z292 st292 hQ292
  subst l292 y292 z292
  obtain ⟨t_292, kb_292, rfl, N292q, K292, f292_0, f292_1, f292_2, f292_3⟩ := hQ292
  have N292 := Fr.app N0 N292q
  have Z293 : n0 ≤ T292.heap.size := Nat.le_trans Z0 K292.1
  have K0_293 : Keep h0 T292.heap [a1] := (Keep.refl h0 [a1]).trans K292 (allS (Or.inl (List.mem_of_getElem? (i := 0) rfl)) all0)
  have O293 : Old Z n0 T292.heap := X00.keep K292 (allS g_a1 all0)
  obtain ⟨fs, hr, hrun, hended, hW, hsame⟩ := X292.leave (v := none) (fun _ => rfl)
  refine ⟨_, _, castTop (ef_jdk_42_method_3_code_RR m a1 b) ?_, hrun, hended, _, _, rfl, ?_, ⟨_, rfl⟩, hW, hsame.mono (own_ble rfl) (own_ble rfl)⟩
  · show Steps _ _ _ (s₁.setTop (mkF m 0 #[.val (.ref a1), .val (.ref b)] [])) _
    refine XS.aloadN X0.here hx rfl (hB d19_0) rfl rfl ?_
    refine XS.aloadN X0.here hx rfl (hB d19_1) rfl rfl ?_
    refine XS.iconst X0.here hx rfl (hB d19_2) ?_
    refine XS.aloadN X0.here hx rfl (hB d19_3) rfl rfl ?_
    refine X0.arraylength hx (own_cell e0 Arq291.1) (State.isArrayOf_alike hZ.alike Arq291.2.1) (g := (mkF m 4 #[.val (.ref a1), .val (.ref b)] [.ref b, .int 0, .ref b, .ref a1])) rfl rfl (hB d19_4) _ ?_
    rw [len_of Sq291 Nq291]
    refine XS.aconstNull X0.here hx rfl (hB d19_5) ?_
    refine st292.trans ?_
    show Steps _ _ _ (T292.setTop (mkF m 9 #[.val (.ref a1), .val (.ref b)] [])) _
    exact X292.returnOut hx Bd.returns (hB d19_9) hr
  · show Qini3 Z G1 fm a1 b ka c0 c1 c2 h0 n0 _ T292.heap _
    exact ⟨t_292, kb_292, (1 : Int32), (6 : Int32), _, rfl, N292, K0_293, f292_0, f292_1, f292_2, f292_3, Or.inr ⟨rfl, rfl, rfl⟩⟩
theorem rmini3 (l : Launch) (Z : State) (a0 : Array Value) (G1 : Int32) (fm : Value) (hG : Glob Z a0 G1 fm) (ws : List Jvm.Cond) (a1 : Addr) (b : Addr) (ka : ClassId) (c0 : Int32) (c1 : Int32) (c2 : Int32) (h0 : Heap) (n0 : Nat) (Z0 : n0 ≤ h0.size) (X00 : Old Z n0 h0) (E_a1 : Exa Z h0 a1 "java/lang/String") (g_a1 : n0 ≤ a1) (F_value_a1 : Fld Z h0 a1 "java/lang/String" "value" "[B" .null) (F_coder_a1 : Fld Z h0 a1 "java/lang/String" "coder" "B" (.int 0)) (V_b : Arv Z h0 b ka .char (3 : Int32) [.int c0, .int c1, .int c2] (.int 0)) (ne_b_a1 : b ≠ a1) (hu : ∀ c ∈ ([c0, c1, c2] : List Int32), own_u16 c) :
    Met l Z h0 y19 jdk_42_method_3_code 2 none ws (Room.mk 5 2 9 74) #[.ref a1, .ref b] (Qini3 Z G1 fm a1 b ka c0 c1 c2 h0 n0) := by
  by_cases hwid : (¬ ((255 : Int32) < c0) ∧ ¬ ((255 : Int32) < c1) ∧ ¬ ((255 : Int32) < c2))
  · obtain ⟨hl0, hl1, hl2⟩ := hwid
    exact rmini3_L l Z a0 G1 fm hG ws a1 b ka c0 c1 c2 h0 n0 Z0 X00 E_a1 g_a1 F_value_a1 F_coder_a1 V_b ne_b_a1 hl0 hl1 hl2
  · exact rmini3_W l Z a0 G1 fm hG ws a1 b ka c0 c1 c2 h0 n0 Z0 X00 E_a1 g_a1 F_value_a1 F_coder_a1 V_b ne_b_a1 hwid hu
def Qc5L4 (Z : State) (G1 : Int32) (fm : Value) (a1 : Addr) (a2 : Addr) (ka : ClassId) (kb : ClassId) (c0 : Int32) (c1 : Int32) (c2 : Int32) (c3 : Int32) (h0 : Heap) (n0 : Nat) (v : Option Value) (h : Heap) (L : List Loc) : Prop := v = some (.int 4) ∧ Fr n0 L ∧ Keep h0 h [a2] ∧ Arv Z h a2 kb .byte (4 : Int32) [(.int ((c0.toInt8.toInt32).toInt8.toInt32)), (.int ((c1.toInt8.toInt32).toInt8.toInt32)), (.int ((c2.toInt8.toInt32).toInt8.toInt32)), (.int ((c3.toInt8.toInt32).toInt8.toInt32))] (.int 0)
theorem rmc5L4 (l : Launch) (Z : State) (a0 : Array Value) (G1 : Int32) (fm : Value) (hG : Glob Z a0 G1 fm) (ws : List Jvm.Cond) (a1 : Addr) (a2 : Addr) (ka : ClassId) (kb : ClassId) (c0 : Int32) (c1 : Int32) (c2 : Int32) (c3 : Int32) (h0 : Heap) (n0 : Nat) (Z0 : n0 ≤ h0.size) (X00 : Old Z n0 h0) (V_a1 : Arv Z h0 a1 ka .char (4 : Int32) [.int c0, .int c1, .int c2, .int c3] (.int 0)) (V_a2 : Arv Z h0 a2 kb .byte (4 : Int32) [.int 0, .int 0, .int 0, .int 0] (.int 0)) (g_a2 : n0 ≤ a2) (ne_a1_a2 : a1 ≠ a2) (hl0 : ¬ ((255 : Int32) < c0)) (hl1 : ¬ ((255 : Int32) < c1)) (hl2 : ¬ ((255 : Int32) < c2)) (hl3 : ¬ ((255 : Int32) < c3)) :
    Met l Z h0 y12 jdk_52_method_21_code 7 (some .int) ws (Room.mk 0 0 0 0) #[.ref a1, .int 0, .ref a2, .int 0, .int 4] (Qc5L4 Z G1 fm a1 a2 ka kb c0 c1 c2 c3 h0 n0) := by
  obtain ⟨hw, O_cs, P_cs, O_as, O_hi, O_lo, O_fm, R_fm⟩ := id hG
  have W := @own_W _ _ hw
  refine own_go "java/lang/StringUTF16" rfl (plainFor_of_name pn_java_lang_StringUTF16) ?_
  intro p e s m below meth c s₁ Bd hx hby hml hown hnm X0 e0 hZ
  have hB := @hb _ _ hby
  have N0 := Fr.nil n0
  obtain ⟨clq294, Arq294, qaq294, Sq294, Nq294, Hq294, Gq294⟩ := id V_a1
  have hinq294 := inb_of (j := (0 : Int32)) Sq294 ⟨by decide, by decide⟩
  have hatq294 := Has.at (v := (.int c0)) Hq294 hinq294 rfl
  obtain ⟨clq295, Arq295, qaq295, Sq295, Nq295, Hq295, Gq295⟩ := id V_a2
  have hinq295 := inb_of (j := (0 : Int32)) Sq295 ⟨by decide, by decide⟩
  obtain ⟨T296, h296, X296, e296, W296, st296⟩ := stB X0 hx hZ e0 Arq295 (j := (0 : Int32)) hinq295 (g := (mkF m 31 #[.val (.ref a1), .val (.int 0), .val (.ref a2), .val (.int 0), .val (.int 4), .val (.int 0), .val (.int c0)] [(.int (c0.toInt8.toInt32)), .int 0, .ref a2])) rfl rfl (hB d12_31)
  have V296 : Arv Z h296 a2 kb .byte (4 : Int32) [(.int ((c0.toInt8.toInt32).toInt8.toInt32)), .int 0, .int 0, .int 0] (.int 0) := Arv.set Arq295 qaq295 Sq295 Nq295 Hq295 Gq295 (fits_nar_byte _) W296 0 rfl (own_ble rfl)
  have Z297 : n0 ≤ h296.size := Nat.le_trans Z0 (Keep.of_wr W296).1
  have K0_297 : Keep h0 h296 [a2] := (Keep.refl h0 [a2]).wr W296 (Or.inl (List.mem_of_getElem? (i := 0) rfl))
  have O297 : Old Z n0 h296 := X00.wr W296 g_a2
  have N296 := Fr.snoc X296 N0 g_a2
  have f298 := (V_a1.other W296 ne_a1_a2)
  obtain ⟨clq299, Arq299, qaq299, Sq299, Nq299, Hq299, Gq299⟩ := id f298
  have hinq299 := inb_of (j := (1 : Int32)) Sq299 ⟨by decide, by decide⟩
  have hatq299 := Has.at (v := (.int c1)) Hq299 hinq299 rfl
  obtain ⟨clq300, Arq300, qaq300, Sq300, Nq300, Hq300, Gq300⟩ := id V296
  have hinq300 := inb_of (j := (1 : Int32)) Sq300 ⟨by decide, by decide⟩
  obtain ⟨T301, h301, X301, e301, W301, st301⟩ := stB X296 hx hZ e296 Arq300 (j := (1 : Int32)) hinq300 (g := (mkF m 31 #[.val (.ref a1), .val (.int 1), .val (.ref a2), .val (.int 1), .val (.int 4), .val (.int 1), .val (.int c1)] [(.int (c1.toInt8.toInt32)), .int 1, .ref a2])) rfl rfl (hB d12_31)
  have V301 : Arv Z h301 a2 kb .byte (4 : Int32) [(.int ((c0.toInt8.toInt32).toInt8.toInt32)), (.int ((c1.toInt8.toInt32).toInt8.toInt32)), .int 0, .int 0] (.int 0) := Arv.set Arq300 qaq300 Sq300 Nq300 Hq300 Gq300 (fits_nar_byte _) W301 1 rfl (own_ble rfl)
  have Z302 : n0 ≤ h301.size := Nat.le_trans Z297 (Keep.of_wr W301).1
  have K0_302 : Keep h0 h301 [a2] := K0_297.wr W301 (Or.inl (List.mem_of_getElem? (i := 0) rfl))
  have O302 : Old Z n0 h301 := O297.wr W301 g_a2
  have N301 := Fr.snoc X301 N296 g_a2
  have f303 := (f298.other W301 ne_a1_a2)
  obtain ⟨clq304, Arq304, qaq304, Sq304, Nq304, Hq304, Gq304⟩ := id f303
  have hinq304 := inb_of (j := (2 : Int32)) Sq304 ⟨by decide, by decide⟩
  have hatq304 := Has.at (v := (.int c2)) Hq304 hinq304 rfl
  obtain ⟨clq305, Arq305, qaq305, Sq305, Nq305, Hq305, Gq305⟩ := id V301
  have hinq305 := inb_of (j := (2 : Int32)) Sq305 ⟨by decide, by decide⟩
  obtain ⟨T306, h306, X306, e306, W306, st306⟩ := stB X301 hx hZ e301 Arq305 (j := (2 : Int32)) hinq305 (g := (mkF m 31 #[.val (.ref a1), .val (.int 2), .val (.ref a2), .val (.int 2), .val (.int 4), .val (.int 2), .val (.int c2)] [(.int (c2.toInt8.toInt32)), .int 2, .ref a2])) rfl rfl (hB d12_31)
  have V306 : Arv Z h306 a2 kb .byte (4 : Int32) [(.int ((c0.toInt8.toInt32).toInt8.toInt32)), (.int ((c1.toInt8.toInt32).toInt8.toInt32)), (.int ((c2.toInt8.toInt32).toInt8.toInt32)), .int 0] (.int 0) := Arv.set Arq305 qaq305 Sq305 Nq305 Hq305 Gq305 (fits_nar_byte _) W306 2 rfl (own_ble rfl)
  have Z307 : n0 ≤ h306.size := Nat.le_trans Z302 (Keep.of_wr W306).1
  have K0_307 : Keep h0 h306 [a2] := K0_302.wr W306 (Or.inl (List.mem_of_getElem? (i := 0) rfl))
  have O307 : Old Z n0 h306 := O302.wr W306 g_a2
  have N306 := Fr.snoc X306 N301 g_a2
  have f308 := (f303.other W306 ne_a1_a2)
  obtain ⟨clq309, Arq309, qaq309, Sq309, Nq309, Hq309, Gq309⟩ := id f308
  have hinq309 := inb_of (j := (3 : Int32)) Sq309 ⟨by decide, by decide⟩
  have hatq309 := Has.at (v := (.int c3)) Hq309 hinq309 rfl
  obtain ⟨clq310, Arq310, qaq310, Sq310, Nq310, Hq310, Gq310⟩ := id V306
  have hinq310 := inb_of (j := (3 : Int32)) Sq310 ⟨by decide, by decide⟩
  obtain ⟨T311, h311, X311, e311, W311, st311⟩ := stB X306 hx hZ e306 Arq310 (j := (3 : Int32)) hinq310 (g := (mkF m 31 #[.val (.ref a1), .val (.int 3), .val (.ref a2), .val (.int 3), .val (.int 4), .val (.int 3), .val (.int c3)] [(.int (c3.toInt8.toInt32)), .int 3, .ref a2])) rfl rfl (hB d12_31)
  have V311 : Arv Z h311 a2 kb .byte (4 : Int32) [(.int ((c0.toInt8.toInt32).toInt8.toInt32)), (.int ((c1.toInt8.toInt32).toInt8.toInt32)), (.int ((c2.toInt8.toInt32).toInt8.toInt32)), (.int ((c3.toInt8.toInt32).toInt8.toInt32))] (.int 0) := Arv.set Arq310 qaq310 Sq310 Nq310 Hq310 Gq310 (fits_nar_byte _) W311 3 rfl (own_ble rfl)
  have Z312 : n0 ≤ h311.size := Nat.le_trans Z307 (Keep.of_wr W311).1
  have K0_312 : Keep h0 h311 [a2] := K0_307.wr W311 (Or.inl (List.mem_of_getElem? (i := 0) rfl))
  have O312 : Old Z n0 h311 := O307.wr W311 g_a2
  have N311 := Fr.snoc X311 N306 g_a2
  obtain ⟨fs, hr, hrun, hended, hW, hsame⟩ := X311.leave (v := some (.int 4)) (fun h => by rw [Bd.returns] at h; cases h)
  refine ⟨_, _, castTop (ef_jdk_52_method_21_code_RIRII m a1 (0 : Int32) a2 (0 : Int32) (4 : Int32)) ?_, hrun, hended, _, _, rfl, ?_, ⟨_, rfl⟩, hW, hsame.mono (own_ble rfl) (own_ble rfl)⟩
  · show Steps _ _ _ (s₁.setTop (mkF m 0 #[.val (.ref a1), .val (.int 0), .val (.ref a2), .val (.int 0), .val (.int 4), .unset, .unset] [])) _
    refine XS.iconst X0.here hx rfl (hB d12_0) ?_
    refine XS.istore X0.here hx rfl (hB d12_1) rfl (l' := #[.val (.ref a1), .val (.int 0), .val (.ref a2), .val (.int 0), .val (.int 4), .val (.int 0), .unset]) rfl ?_
    refine XS.iload X0.here hx rfl (hB d12_3) rfl ?_
    refine XS.iload X0.here hx rfl (hB d12_5) rfl ?_
    refine XS.icmpNo X0.here hx rfl (hB d12_7) rfl (tlt (by decide : (0 : Int32) < (4 : Int32))).2.1 ?_
    refine XS.aloadN X0.here hx rfl (hB d12_10) rfl rfl ?_
    refine XS.iloadN X0.here hx rfl (hB d12_11) rfl ?_
    refine X0.caload hx (j := (0 : Int32)) (v := (.int c0)) (own_cell e0 Arq294.1) (State.isArrayOf_alike hZ.alike Arq294.2.1) Arq294.2.2 hinq294 hatq294 (g := (mkF m 12 #[.val (.ref a1), .val (.int 0), .val (.ref a2), .val (.int 0), .val (.int 4), .val (.int 0), .unset] [.int 0, .ref a1])) rfl rfl (hB d12_12) _ ?_
    refine XS.istore X0.here hx rfl (hB d12_13) rfl (l' := #[.val (.ref a1), .val (.int 0), .val (.ref a2), .val (.int 0), .val (.int 4), .val (.int 0), .val (.int c0)]) rfl ?_
    refine XS.iload X0.here hx rfl (hB d12_15) rfl ?_
    refine XS.sipush X0.here hx rfl (hB d12_17) ?_
    refine XS.icmpYes X0.here hx rfl (pc0 := 20) (pc' := 26) rfl (hB d12_20) rfl (flt (hl0 : ¬ ((255 : Int32) < c0))).2.2.2 (by decide) (by decide) ?_
    refine XS.aloadN X0.here hx rfl (hB d12_26) rfl rfl ?_
    refine XS.iloadN X0.here hx rfl (hB d12_27) rfl ?_
    refine XS.iload X0.here hx rfl (hB d12_28) rfl ?_
    refine XS.i2b X0.here hx rfl (hB d12_30) rfl ?_
    show Steps _ _ _ (s₁.setTop (mkF m 31 #[.val (.ref a1), .val (.int 0), .val (.ref a2), .val (.int 0), .val (.int 4), .val (.int 0), .val (.int c0)] [(.int (c0.toInt8.toInt32)), .int 0, .ref a2])) _
    refine st296 _ ?_
    show Steps _ _ _ (T296.setTop (mkF m 32 #[.val (.ref a1), .val (.int 0), .val (.ref a2), .val (.int 0), .val (.int 4), .val (.int 0), .val (.int c0)] [])) _
    refine XS.iinc X296.here hx rfl (hB d12_32) rfl (l' := #[.val (.ref a1), .val (.int 1), .val (.ref a2), .val (.int 0), .val (.int 4), .val (.int 0), .val (.int c0)]) rfl ?_
    refine XS.iinc X296.here hx rfl (hB d12_35) rfl (l' := #[.val (.ref a1), .val (.int 1), .val (.ref a2), .val (.int 1), .val (.int 4), .val (.int 0), .val (.int c0)]) rfl ?_
    refine XS.iinc X296.here hx rfl (hB d12_38) rfl (l' := #[.val (.ref a1), .val (.int 1), .val (.ref a2), .val (.int 1), .val (.int 4), .val (.int 1), .val (.int c0)]) rfl ?_
    refine XS.goto X296.here hx rfl (pc0 := 41) (pc' := 3) rfl (hB d12_41) (by decide) (by decide) ?_
    refine XS.iload X296.here hx rfl (hB d12_3) rfl ?_
    refine XS.iload X296.here hx rfl (hB d12_5) rfl ?_
    refine XS.icmpNo X296.here hx rfl (hB d12_7) rfl (tlt (by decide : (1 : Int32) < (4 : Int32))).2.1 ?_
    refine XS.aloadN X296.here hx rfl (hB d12_10) rfl rfl ?_
    refine XS.iloadN X296.here hx rfl (hB d12_11) rfl ?_
    refine X296.caload hx (j := (1 : Int32)) (v := (.int c1)) (own_cell e296 Arq299.1) (State.isArrayOf_alike hZ.alike Arq299.2.1) Arq299.2.2 hinq299 hatq299 (g := (mkF m 12 #[.val (.ref a1), .val (.int 1), .val (.ref a2), .val (.int 1), .val (.int 4), .val (.int 1), .val (.int c0)] [.int 1, .ref a1])) rfl rfl (hB d12_12) _ ?_
    refine XS.istore X296.here hx rfl (hB d12_13) rfl (l' := #[.val (.ref a1), .val (.int 1), .val (.ref a2), .val (.int 1), .val (.int 4), .val (.int 1), .val (.int c1)]) rfl ?_
    refine XS.iload X296.here hx rfl (hB d12_15) rfl ?_
    refine XS.sipush X296.here hx rfl (hB d12_17) ?_
    refine XS.icmpYes X296.here hx rfl (pc0 := 20) (pc' := 26) rfl (hB d12_20) rfl (flt (hl1 : ¬ ((255 : Int32) < c1))).2.2.2 (by decide) (by decide) ?_
    refine XS.aloadN X296.here hx rfl (hB d12_26) rfl rfl ?_
    refine XS.iloadN X296.here hx rfl (hB d12_27) rfl ?_
    show Steps _ _ _ (T296.setTop (mkF m 28 #[.val (.ref a1), .val (.int 1), .val (.ref a2), .val (.int 1), .val (.int 4), .val (.int 1), .val (.int c1)] [.int 1, .ref a2])) _
    refine XS.iload X296.here hx rfl (hB d12_28) rfl ?_
    refine XS.i2b X296.here hx rfl (hB d12_30) rfl ?_
    refine st301 _ ?_
    show Steps _ _ _ (T301.setTop (mkF m 32 #[.val (.ref a1), .val (.int 1), .val (.ref a2), .val (.int 1), .val (.int 4), .val (.int 1), .val (.int c1)] [])) _
    refine XS.iinc X301.here hx rfl (hB d12_32) rfl (l' := #[.val (.ref a1), .val (.int 2), .val (.ref a2), .val (.int 1), .val (.int 4), .val (.int 1), .val (.int c1)]) rfl ?_
    refine XS.iinc X301.here hx rfl (hB d12_35) rfl (l' := #[.val (.ref a1), .val (.int 2), .val (.ref a2), .val (.int 2), .val (.int 4), .val (.int 1), .val (.int c1)]) rfl ?_
    refine XS.iinc X301.here hx rfl (hB d12_38) rfl (l' := #[.val (.ref a1), .val (.int 2), .val (.ref a2), .val (.int 2), .val (.int 4), .val (.int 2), .val (.int c1)]) rfl ?_
    refine XS.goto X301.here hx rfl (pc0 := 41) (pc' := 3) rfl (hB d12_41) (by decide) (by decide) ?_
    refine XS.iload X301.here hx rfl (hB d12_3) rfl ?_
    refine XS.iload X301.here hx rfl (hB d12_5) rfl ?_
    refine XS.icmpNo X301.here hx rfl (hB d12_7) rfl (tlt (by decide : (2 : Int32) < (4 : Int32))).2.1 ?_
    refine XS.aloadN X301.here hx rfl (hB d12_10) rfl rfl ?_
    refine XS.iloadN X301.here hx rfl (hB d12_11) rfl ?_
    refine X301.caload hx (j := (2 : Int32)) (v := (.int c2)) (own_cell e301 Arq304.1) (State.isArrayOf_alike hZ.alike Arq304.2.1) Arq304.2.2 hinq304 hatq304 (g := (mkF m 12 #[.val (.ref a1), .val (.int 2), .val (.ref a2), .val (.int 2), .val (.int 4), .val (.int 2), .val (.int c1)] [.int 2, .ref a1])) rfl rfl (hB d12_12) _ ?_
    refine XS.istore X301.here hx rfl (hB d12_13) rfl (l' := #[.val (.ref a1), .val (.int 2), .val (.ref a2), .val (.int 2), .val (.int 4), .val (.int 2), .val (.int c2)]) rfl ?_
    refine XS.iload X301.here hx rfl (hB d12_15) rfl ?_
    refine XS.sipush X301.here hx rfl (hB d12_17) ?_
    refine XS.icmpYes X301.here hx rfl (pc0 := 20) (pc' := 26) rfl (hB d12_20) rfl (flt (hl2 : ¬ ((255 : Int32) < c2))).2.2.2 (by decide) (by decide) ?_
    refine XS.aloadN X301.here hx rfl (hB d12_26) rfl rfl ?_
    refine XS.iloadN X301.here hx rfl (hB d12_27) rfl ?_
    show Steps _ _ _ (T301.setTop (mkF m 28 #[.val (.ref a1), .val (.int 2), .val (.ref a2), .val (.int 2), .val (.int 4), .val (.int 2), .val (.int c2)] [.int 2, .ref a2])) _
    refine XS.iload X301.here hx rfl (hB d12_28) rfl ?_
    refine XS.i2b X301.here hx rfl (hB d12_30) rfl ?_
    refine st306 _ ?_
    show Steps _ _ _ (T306.setTop (mkF m 32 #[.val (.ref a1), .val (.int 2), .val (.ref a2), .val (.int 2), .val (.int 4), .val (.int 2), .val (.int c2)] [])) _
    refine XS.iinc X306.here hx rfl (hB d12_32) rfl (l' := #[.val (.ref a1), .val (.int 3), .val (.ref a2), .val (.int 2), .val (.int 4), .val (.int 2), .val (.int c2)]) rfl ?_
    refine XS.iinc X306.here hx rfl (hB d12_35) rfl (l' := #[.val (.ref a1), .val (.int 3), .val (.ref a2), .val (.int 3), .val (.int 4), .val (.int 2), .val (.int c2)]) rfl ?_
    refine XS.iinc X306.here hx rfl (hB d12_38) rfl (l' := #[.val (.ref a1), .val (.int 3), .val (.ref a2), .val (.int 3), .val (.int 4), .val (.int 3), .val (.int c2)]) rfl ?_
    refine XS.goto X306.here hx rfl (pc0 := 41) (pc' := 3) rfl (hB d12_41) (by decide) (by decide) ?_
    refine XS.iload X306.here hx rfl (hB d12_3) rfl ?_
    refine XS.iload X306.here hx rfl (hB d12_5) rfl ?_
    refine XS.icmpNo X306.here hx rfl (hB d12_7) rfl (tlt (by decide : (3 : Int32) < (4 : Int32))).2.1 ?_
    refine XS.aloadN X306.here hx rfl (hB d12_10) rfl rfl ?_
    refine XS.iloadN X306.here hx rfl (hB d12_11) rfl ?_
    refine X306.caload hx (j := (3 : Int32)) (v := (.int c3)) (own_cell e306 Arq309.1) (State.isArrayOf_alike hZ.alike Arq309.2.1) Arq309.2.2 hinq309 hatq309 (g := (mkF m 12 #[.val (.ref a1), .val (.int 3), .val (.ref a2), .val (.int 3), .val (.int 4), .val (.int 3), .val (.int c2)] [.int 3, .ref a1])) rfl rfl (hB d12_12) _ ?_
    refine XS.istore X306.here hx rfl (hB d12_13) rfl (l' := #[.val (.ref a1), .val (.int 3), .val (.ref a2), .val (.int 3), .val (.int 4), .val (.int 3), .val (.int c3)]) rfl ?_
    refine XS.iload X306.here hx rfl (hB d12_15) rfl ?_
    refine XS.sipush X306.here hx rfl (hB d12_17) ?_
    refine XS.icmpYes X306.here hx rfl (pc0 := 20) (pc' := 26) rfl (hB d12_20) rfl (flt (hl3 : ¬ ((255 : Int32) < c3))).2.2.2 (by decide) (by decide) ?_
    refine XS.aloadN X306.here hx rfl (hB d12_26) rfl rfl ?_
    refine XS.iloadN X306.here hx rfl (hB d12_27) rfl ?_
    show Steps _ _ _ (T306.setTop (mkF m 28 #[.val (.ref a1), .val (.int 3), .val (.ref a2), .val (.int 3), .val (.int 4), .val (.int 3), .val (.int c3)] [.int 3, .ref a2])) _
    refine XS.iload X306.here hx rfl (hB d12_28) rfl ?_
    refine XS.i2b X306.here hx rfl (hB d12_30) rfl ?_
    refine st311 _ ?_
    show Steps _ _ _ (T311.setTop (mkF m 32 #[.val (.ref a1), .val (.int 3), .val (.ref a2), .val (.int 3), .val (.int 4), .val (.int 3), .val (.int c3)] [])) _
    refine XS.iinc X311.here hx rfl (hB d12_32) rfl (l' := #[.val (.ref a1), .val (.int 4), .val (.ref a2), .val (.int 3), .val (.int 4), .val (.int 3), .val (.int c3)]) rfl ?_
    refine XS.iinc X311.here hx rfl (hB d12_35) rfl (l' := #[.val (.ref a1), .val (.int 4), .val (.ref a2), .val (.int 4), .val (.int 4), .val (.int 3), .val (.int c3)]) rfl ?_
    refine XS.iinc X311.here hx rfl (hB d12_38) rfl (l' := #[.val (.ref a1), .val (.int 4), .val (.ref a2), .val (.int 4), .val (.int 4), .val (.int 4), .val (.int c3)]) rfl ?_
    refine XS.goto X311.here hx rfl (pc0 := 41) (pc' := 3) rfl (hB d12_41) (by decide) (by decide) ?_
    refine XS.iload X311.here hx rfl (hB d12_3) rfl ?_
    refine XS.iload X311.here hx rfl (hB d12_5) rfl ?_
    refine XS.icmpYes X311.here hx rfl (pc0 := 7) (pc' := 44) rfl (hB d12_7) rfl (flt (by decide : ¬ ((4 : Int32) < (4 : Int32)))).2.1 (by decide) (by decide) ?_
    refine XS.iload X311.here hx rfl (hB d12_44) rfl ?_
    exact retOut X311 hx Bd.returns rfl (Or.inl ⟨rfl, Or.inl rfl, _, rfl⟩) (hB d12_46) hr
  · show Qc5L4 Z G1 fm a1 a2 ka kb c0 c1 c2 c3 h0 n0 _ T311.heap _
    rw [e311]
    exact ⟨rfl, N311, K0_312, V311⟩
def Qc5W4 (Z : State) (G1 : Int32) (fm : Value) (a1 : Addr) (a2 : Addr) (ka : ClassId) (kb : ClassId) (c0 : Int32) (c1 : Int32) (c2 : Int32) (c3 : Int32) (h0 : Heap) (n0 : Nat) (v : Option Value) (h : Heap) (L : List Loc) : Prop := ∃ j : Int32, v = some (.int j) ∧ Fr n0 L ∧ Keep h0 h [a2] ∧ own_first j [c0, c1, c2, c3]
theorem rmc5W4_0 (l : Launch) (Z : State) (a0 : Array Value) (G1 : Int32) (fm : Value) (hG : Glob Z a0 G1 fm) (ws : List Jvm.Cond) (a1 : Addr) (a2 : Addr) (ka : ClassId) (kb : ClassId) (c0 : Int32) (c1 : Int32) (c2 : Int32) (c3 : Int32) (h0 : Heap) (n0 : Nat) (Z0 : n0 ≤ h0.size) (X00 : Old Z n0 h0) (V_a1 : Arv Z h0 a1 ka .char (4 : Int32) [.int c0, .int c1, .int c2, .int c3] (.int 0)) (V_a2 : Arv Z h0 a2 kb .byte (4 : Int32) [.int 0, .int 0, .int 0, .int 0] (.int 0)) (g_a2 : n0 ≤ a2) (ne_a1_a2 : a1 ≠ a2) (hwid : ¬ (¬ ((255 : Int32) < c0) ∧ ¬ ((255 : Int32) < c1) ∧ ¬ ((255 : Int32) < c2) ∧ ¬ ((255 : Int32) < c3))) (hwd : (255 : Int32) < c0) :
    Met l Z h0 y12 jdk_52_method_21_code 7 (some .int) ws (Room.mk 0 0 0 0) #[.ref a1, .int 0, .ref a2, .int 0, .int 4] (Qc5W4 Z G1 fm a1 a2 ka kb c0 c1 c2 c3 h0 n0) := by
  obtain ⟨hw, O_cs, P_cs, O_as, O_hi, O_lo, O_fm, R_fm⟩ := id hG
  have W := @own_W _ _ hw
  refine own_go "java/lang/StringUTF16" rfl (plainFor_of_name pn_java_lang_StringUTF16) ?_
  intro p e s m below meth c s₁ Bd hx hby hml hown hnm X0 e0 hZ
  have hB := @hb _ _ hby
  have N0 := Fr.nil n0
  obtain ⟨clq313, Arq313, qaq313, Sq313, Nq313, Hq313, Gq313⟩ := id V_a1
  have hinq313 := inb_of (j := (0 : Int32)) Sq313 ⟨by decide, by decide⟩
  have hatq313 := Has.at (v := (.int c0)) Hq313 hinq313 rfl
  obtain ⟨fs, hr, hrun, hended, hW, hsame⟩ := X0.leave (v := some (.int 0)) (fun h => by rw [Bd.returns] at h; cases h)
  refine ⟨_, _, castTop (ef_jdk_52_method_21_code_RIRII m a1 (0 : Int32) a2 (0 : Int32) (4 : Int32)) ?_, hrun, hended, _, _, rfl, ?_, ⟨_, rfl⟩, hW, hsame.mono (own_ble rfl) (own_ble rfl)⟩
  · show Steps _ _ _ (s₁.setTop (mkF m 0 #[.val (.ref a1), .val (.int 0), .val (.ref a2), .val (.int 0), .val (.int 4), .unset, .unset] [])) _
    refine XS.iconst X0.here hx rfl (hB d12_0) ?_
    refine XS.istore X0.here hx rfl (hB d12_1) rfl (l' := #[.val (.ref a1), .val (.int 0), .val (.ref a2), .val (.int 0), .val (.int 4), .val (.int 0), .unset]) rfl ?_
    refine XS.iload X0.here hx rfl (hB d12_3) rfl ?_
    refine XS.iload X0.here hx rfl (hB d12_5) rfl ?_
    refine XS.icmpNo X0.here hx rfl (hB d12_7) rfl (tlt (by decide : (0 : Int32) < (4 : Int32))).2.1 ?_
    refine XS.aloadN X0.here hx rfl (hB d12_10) rfl rfl ?_
    refine XS.iloadN X0.here hx rfl (hB d12_11) rfl ?_
    refine X0.caload hx (j := (0 : Int32)) (v := (.int c0)) (own_cell e0 Arq313.1) (State.isArrayOf_alike hZ.alike Arq313.2.1) Arq313.2.2 hinq313 hatq313 (g := (mkF m 12 #[.val (.ref a1), .val (.int 0), .val (.ref a2), .val (.int 0), .val (.int 4), .val (.int 0), .unset] [.int 0, .ref a1])) rfl rfl (hB d12_12) _ ?_
    refine XS.istore X0.here hx rfl (hB d12_13) rfl (l' := #[.val (.ref a1), .val (.int 0), .val (.ref a2), .val (.int 0), .val (.int 4), .val (.int 0), .val (.int c0)]) rfl ?_
    refine XS.iload X0.here hx rfl (hB d12_15) rfl ?_
    refine XS.sipush X0.here hx rfl (hB d12_17) ?_
    refine XS.icmpNo X0.here hx rfl (hB d12_20) rfl (tlt (hwd : (255 : Int32) < c0)).2.2.2 ?_
    refine XS.iload X0.here hx rfl (hB d12_23) rfl ?_
    exact retOut X0 hx Bd.returns rfl (Or.inl ⟨rfl, Or.inl rfl, _, rfl⟩) (hB d12_25) hr
  · show Qc5W4 Z G1 fm a1 a2 ka kb c0 c1 c2 c3 h0 n0 _ s₁.heap _
    rw [e0]
    exact ⟨(0 : Int32), rfl, N0, (Keep.refl h0 [a2]), ⟨0, c0, rfl, rfl, hwd⟩⟩
theorem rmc5W4_1 (l : Launch) (Z : State) (a0 : Array Value) (G1 : Int32) (fm : Value) (hG : Glob Z a0 G1 fm) (ws : List Jvm.Cond) (a1 : Addr) (a2 : Addr) (ka : ClassId) (kb : ClassId) (c0 : Int32) (c1 : Int32) (c2 : Int32) (c3 : Int32) (h0 : Heap) (n0 : Nat) (Z0 : n0 ≤ h0.size) (X00 : Old Z n0 h0) (V_a1 : Arv Z h0 a1 ka .char (4 : Int32) [.int c0, .int c1, .int c2, .int c3] (.int 0)) (V_a2 : Arv Z h0 a2 kb .byte (4 : Int32) [.int 0, .int 0, .int 0, .int 0] (.int 0)) (g_a2 : n0 ≤ a2) (ne_a1_a2 : a1 ≠ a2) (hwid : ¬ (¬ ((255 : Int32) < c0) ∧ ¬ ((255 : Int32) < c1) ∧ ¬ ((255 : Int32) < c2) ∧ ¬ ((255 : Int32) < c3))) (hl0 : ¬ ((255 : Int32) < c0)) (hwd : (255 : Int32) < c1) :
    Met l Z h0 y12 jdk_52_method_21_code 7 (some .int) ws (Room.mk 0 0 0 0) #[.ref a1, .int 0, .ref a2, .int 0, .int 4] (Qc5W4 Z G1 fm a1 a2 ka kb c0 c1 c2 c3 h0 n0) := by
  obtain ⟨hw, O_cs, P_cs, O_as, O_hi, O_lo, O_fm, R_fm⟩ := id hG
  have W := @own_W _ _ hw
  refine own_go "java/lang/StringUTF16" rfl (plainFor_of_name pn_java_lang_StringUTF16) ?_
  intro p e s m below meth c s₁ Bd hx hby hml hown hnm X0 e0 hZ
  have hB := @hb _ _ hby
  have N0 := Fr.nil n0
  obtain ⟨clq314, Arq314, qaq314, Sq314, Nq314, Hq314, Gq314⟩ := id V_a1
  have hinq314 := inb_of (j := (0 : Int32)) Sq314 ⟨by decide, by decide⟩
  have hatq314 := Has.at (v := (.int c0)) Hq314 hinq314 rfl
  obtain ⟨clq315, Arq315, qaq315, Sq315, Nq315, Hq315, Gq315⟩ := id V_a2
  have hinq315 := inb_of (j := (0 : Int32)) Sq315 ⟨by decide, by decide⟩
  obtain ⟨T316, h316, X316, e316, W316, st316⟩ := stB X0 hx hZ e0 Arq315 (j := (0 : Int32)) hinq315 (g := (mkF m 31 #[.val (.ref a1), .val (.int 0), .val (.ref a2), .val (.int 0), .val (.int 4), .val (.int 0), .val (.int c0)] [(.int (c0.toInt8.toInt32)), .int 0, .ref a2])) rfl rfl (hB d12_31)
  have V316 : Arv Z h316 a2 kb .byte (4 : Int32) [(.int ((c0.toInt8.toInt32).toInt8.toInt32)), .int 0, .int 0, .int 0] (.int 0) := Arv.set Arq315 qaq315 Sq315 Nq315 Hq315 Gq315 (fits_nar_byte _) W316 0 rfl (own_ble rfl)
  have Z317 : n0 ≤ h316.size := Nat.le_trans Z0 (Keep.of_wr W316).1
  have K0_317 : Keep h0 h316 [a2] := (Keep.refl h0 [a2]).wr W316 (Or.inl (List.mem_of_getElem? (i := 0) rfl))
  have O317 : Old Z n0 h316 := X00.wr W316 g_a2
  have N316 := Fr.snoc X316 N0 g_a2
  have f318 := (V_a1.other W316 ne_a1_a2)
  obtain ⟨clq319, Arq319, qaq319, Sq319, Nq319, Hq319, Gq319⟩ := id f318
  have hinq319 := inb_of (j := (1 : Int32)) Sq319 ⟨by decide, by decide⟩
  have hatq319 := Has.at (v := (.int c1)) Hq319 hinq319 rfl
  obtain ⟨fs, hr, hrun, hended, hW, hsame⟩ := X316.leave (v := some (.int 1)) (fun h => by rw [Bd.returns] at h; cases h)
  refine ⟨_, _, castTop (ef_jdk_52_method_21_code_RIRII m a1 (0 : Int32) a2 (0 : Int32) (4 : Int32)) ?_, hrun, hended, _, _, rfl, ?_, ⟨_, rfl⟩, hW, hsame.mono (own_ble rfl) (own_ble rfl)⟩
  · show Steps _ _ _ (s₁.setTop (mkF m 0 #[.val (.ref a1), .val (.int 0), .val (.ref a2), .val (.int 0), .val (.int 4), .unset, .unset] [])) _
    refine XS.iconst X0.here hx rfl (hB d12_0) ?_
    refine XS.istore X0.here hx rfl (hB d12_1) rfl (l' := #[.val (.ref a1), .val (.int 0), .val (.ref a2), .val (.int 0), .val (.int 4), .val (.int 0), .unset]) rfl ?_
    refine XS.iload X0.here hx rfl (hB d12_3) rfl ?_
    refine XS.iload X0.here hx rfl (hB d12_5) rfl ?_
    refine XS.icmpNo X0.here hx rfl (hB d12_7) rfl (tlt (by decide : (0 : Int32) < (4 : Int32))).2.1 ?_
    refine XS.aloadN X0.here hx rfl (hB d12_10) rfl rfl ?_
    refine XS.iloadN X0.here hx rfl (hB d12_11) rfl ?_
    refine X0.caload hx (j := (0 : Int32)) (v := (.int c0)) (own_cell e0 Arq314.1) (State.isArrayOf_alike hZ.alike Arq314.2.1) Arq314.2.2 hinq314 hatq314 (g := (mkF m 12 #[.val (.ref a1), .val (.int 0), .val (.ref a2), .val (.int 0), .val (.int 4), .val (.int 0), .unset] [.int 0, .ref a1])) rfl rfl (hB d12_12) _ ?_
    refine XS.istore X0.here hx rfl (hB d12_13) rfl (l' := #[.val (.ref a1), .val (.int 0), .val (.ref a2), .val (.int 0), .val (.int 4), .val (.int 0), .val (.int c0)]) rfl ?_
    refine XS.iload X0.here hx rfl (hB d12_15) rfl ?_
    refine XS.sipush X0.here hx rfl (hB d12_17) ?_
    refine XS.icmpYes X0.here hx rfl (pc0 := 20) (pc' := 26) rfl (hB d12_20) rfl (flt (hl0 : ¬ ((255 : Int32) < c0))).2.2.2 (by decide) (by decide) ?_
    refine XS.aloadN X0.here hx rfl (hB d12_26) rfl rfl ?_
    refine XS.iloadN X0.here hx rfl (hB d12_27) rfl ?_
    refine XS.iload X0.here hx rfl (hB d12_28) rfl ?_
    refine XS.i2b X0.here hx rfl (hB d12_30) rfl ?_
    show Steps _ _ _ (s₁.setTop (mkF m 31 #[.val (.ref a1), .val (.int 0), .val (.ref a2), .val (.int 0), .val (.int 4), .val (.int 0), .val (.int c0)] [(.int (c0.toInt8.toInt32)), .int 0, .ref a2])) _
    refine st316 _ ?_
    show Steps _ _ _ (T316.setTop (mkF m 32 #[.val (.ref a1), .val (.int 0), .val (.ref a2), .val (.int 0), .val (.int 4), .val (.int 0), .val (.int c0)] [])) _
    refine XS.iinc X316.here hx rfl (hB d12_32) rfl (l' := #[.val (.ref a1), .val (.int 1), .val (.ref a2), .val (.int 0), .val (.int 4), .val (.int 0), .val (.int c0)]) rfl ?_
    refine XS.iinc X316.here hx rfl (hB d12_35) rfl (l' := #[.val (.ref a1), .val (.int 1), .val (.ref a2), .val (.int 1), .val (.int 4), .val (.int 0), .val (.int c0)]) rfl ?_
    refine XS.iinc X316.here hx rfl (hB d12_38) rfl (l' := #[.val (.ref a1), .val (.int 1), .val (.ref a2), .val (.int 1), .val (.int 4), .val (.int 1), .val (.int c0)]) rfl ?_
    refine XS.goto X316.here hx rfl (pc0 := 41) (pc' := 3) rfl (hB d12_41) (by decide) (by decide) ?_
    refine XS.iload X316.here hx rfl (hB d12_3) rfl ?_
    refine XS.iload X316.here hx rfl (hB d12_5) rfl ?_
    refine XS.icmpNo X316.here hx rfl (hB d12_7) rfl (tlt (by decide : (1 : Int32) < (4 : Int32))).2.1 ?_
    refine XS.aloadN X316.here hx rfl (hB d12_10) rfl rfl ?_
    refine XS.iloadN X316.here hx rfl (hB d12_11) rfl ?_
    refine X316.caload hx (j := (1 : Int32)) (v := (.int c1)) (own_cell e316 Arq319.1) (State.isArrayOf_alike hZ.alike Arq319.2.1) Arq319.2.2 hinq319 hatq319 (g := (mkF m 12 #[.val (.ref a1), .val (.int 1), .val (.ref a2), .val (.int 1), .val (.int 4), .val (.int 1), .val (.int c0)] [.int 1, .ref a1])) rfl rfl (hB d12_12) _ ?_
    refine XS.istore X316.here hx rfl (hB d12_13) rfl (l' := #[.val (.ref a1), .val (.int 1), .val (.ref a2), .val (.int 1), .val (.int 4), .val (.int 1), .val (.int c1)]) rfl ?_
    refine XS.iload X316.here hx rfl (hB d12_15) rfl ?_
    refine XS.sipush X316.here hx rfl (hB d12_17) ?_
    refine XS.icmpNo X316.here hx rfl (hB d12_20) rfl (tlt (hwd : (255 : Int32) < c1)).2.2.2 ?_
    refine XS.iload X316.here hx rfl (hB d12_23) rfl ?_
    exact retOut X316 hx Bd.returns rfl (Or.inl ⟨rfl, Or.inl rfl, _, rfl⟩) (hB d12_25) hr
  · show Qc5W4 Z G1 fm a1 a2 ka kb c0 c1 c2 c3 h0 n0 _ T316.heap _
    rw [e316]
    exact ⟨(1 : Int32), rfl, N316, K0_317, ⟨1, c1, rfl, rfl, hwd⟩⟩
theorem rmc5W4_2 (l : Launch) (Z : State) (a0 : Array Value) (G1 : Int32) (fm : Value) (hG : Glob Z a0 G1 fm) (ws : List Jvm.Cond) (a1 : Addr) (a2 : Addr) (ka : ClassId) (kb : ClassId) (c0 : Int32) (c1 : Int32) (c2 : Int32) (c3 : Int32) (h0 : Heap) (n0 : Nat) (Z0 : n0 ≤ h0.size) (X00 : Old Z n0 h0) (V_a1 : Arv Z h0 a1 ka .char (4 : Int32) [.int c0, .int c1, .int c2, .int c3] (.int 0)) (V_a2 : Arv Z h0 a2 kb .byte (4 : Int32) [.int 0, .int 0, .int 0, .int 0] (.int 0)) (g_a2 : n0 ≤ a2) (ne_a1_a2 : a1 ≠ a2) (hwid : ¬ (¬ ((255 : Int32) < c0) ∧ ¬ ((255 : Int32) < c1) ∧ ¬ ((255 : Int32) < c2) ∧ ¬ ((255 : Int32) < c3))) (hl0 : ¬ ((255 : Int32) < c0)) (hl1 : ¬ ((255 : Int32) < c1)) (hwd : (255 : Int32) < c2) :
    Met l Z h0 y12 jdk_52_method_21_code 7 (some .int) ws (Room.mk 0 0 0 0) #[.ref a1, .int 0, .ref a2, .int 0, .int 4] (Qc5W4 Z G1 fm a1 a2 ka kb c0 c1 c2 c3 h0 n0) := by
  obtain ⟨hw, O_cs, P_cs, O_as, O_hi, O_lo, O_fm, R_fm⟩ := id hG
  have W := @own_W _ _ hw
  refine own_go "java/lang/StringUTF16" rfl (plainFor_of_name pn_java_lang_StringUTF16) ?_
  intro p e s m below meth c s₁ Bd hx hby hml hown hnm X0 e0 hZ
  have hB := @hb _ _ hby
  have N0 := Fr.nil n0
  obtain ⟨clq320, Arq320, qaq320, Sq320, Nq320, Hq320, Gq320⟩ := id V_a1
  have hinq320 := inb_of (j := (0 : Int32)) Sq320 ⟨by decide, by decide⟩
  have hatq320 := Has.at (v := (.int c0)) Hq320 hinq320 rfl
  obtain ⟨clq321, Arq321, qaq321, Sq321, Nq321, Hq321, Gq321⟩ := id V_a2
  have hinq321 := inb_of (j := (0 : Int32)) Sq321 ⟨by decide, by decide⟩
  obtain ⟨T322, h322, X322, e322, W322, st322⟩ := stB X0 hx hZ e0 Arq321 (j := (0 : Int32)) hinq321 (g := (mkF m 31 #[.val (.ref a1), .val (.int 0), .val (.ref a2), .val (.int 0), .val (.int 4), .val (.int 0), .val (.int c0)] [(.int (c0.toInt8.toInt32)), .int 0, .ref a2])) rfl rfl (hB d12_31)
  have V322 : Arv Z h322 a2 kb .byte (4 : Int32) [(.int ((c0.toInt8.toInt32).toInt8.toInt32)), .int 0, .int 0, .int 0] (.int 0) := Arv.set Arq321 qaq321 Sq321 Nq321 Hq321 Gq321 (fits_nar_byte _) W322 0 rfl (own_ble rfl)
  have Z323 : n0 ≤ h322.size := Nat.le_trans Z0 (Keep.of_wr W322).1
  have K0_323 : Keep h0 h322 [a2] := (Keep.refl h0 [a2]).wr W322 (Or.inl (List.mem_of_getElem? (i := 0) rfl))
  have O323 : Old Z n0 h322 := X00.wr W322 g_a2
  have N322 := Fr.snoc X322 N0 g_a2
  have f324 := (V_a1.other W322 ne_a1_a2)
  obtain ⟨clq325, Arq325, qaq325, Sq325, Nq325, Hq325, Gq325⟩ := id f324
  have hinq325 := inb_of (j := (1 : Int32)) Sq325 ⟨by decide, by decide⟩
  have hatq325 := Has.at (v := (.int c1)) Hq325 hinq325 rfl
  obtain ⟨clq326, Arq326, qaq326, Sq326, Nq326, Hq326, Gq326⟩ := id V322
  have hinq326 := inb_of (j := (1 : Int32)) Sq326 ⟨by decide, by decide⟩
  obtain ⟨T327, h327, X327, e327, W327, st327⟩ := stB X322 hx hZ e322 Arq326 (j := (1 : Int32)) hinq326 (g := (mkF m 31 #[.val (.ref a1), .val (.int 1), .val (.ref a2), .val (.int 1), .val (.int 4), .val (.int 1), .val (.int c1)] [(.int (c1.toInt8.toInt32)), .int 1, .ref a2])) rfl rfl (hB d12_31)
  have V327 : Arv Z h327 a2 kb .byte (4 : Int32) [(.int ((c0.toInt8.toInt32).toInt8.toInt32)), (.int ((c1.toInt8.toInt32).toInt8.toInt32)), .int 0, .int 0] (.int 0) := Arv.set Arq326 qaq326 Sq326 Nq326 Hq326 Gq326 (fits_nar_byte _) W327 1 rfl (own_ble rfl)
  have Z328 : n0 ≤ h327.size := Nat.le_trans Z323 (Keep.of_wr W327).1
  have K0_328 : Keep h0 h327 [a2] := K0_323.wr W327 (Or.inl (List.mem_of_getElem? (i := 0) rfl))
  have O328 : Old Z n0 h327 := O323.wr W327 g_a2
  have N327 := Fr.snoc X327 N322 g_a2
  have f329 := (f324.other W327 ne_a1_a2)
  obtain ⟨clq330, Arq330, qaq330, Sq330, Nq330, Hq330, Gq330⟩ := id f329
  have hinq330 := inb_of (j := (2 : Int32)) Sq330 ⟨by decide, by decide⟩
  have hatq330 := Has.at (v := (.int c2)) Hq330 hinq330 rfl
  obtain ⟨fs, hr, hrun, hended, hW, hsame⟩ := X327.leave (v := some (.int 2)) (fun h => by rw [Bd.returns] at h; cases h)
  refine ⟨_, _, castTop (ef_jdk_52_method_21_code_RIRII m a1 (0 : Int32) a2 (0 : Int32) (4 : Int32)) ?_, hrun, hended, _, _, rfl, ?_, ⟨_, rfl⟩, hW, hsame.mono (own_ble rfl) (own_ble rfl)⟩
  · show Steps _ _ _ (s₁.setTop (mkF m 0 #[.val (.ref a1), .val (.int 0), .val (.ref a2), .val (.int 0), .val (.int 4), .unset, .unset] [])) _
    refine XS.iconst X0.here hx rfl (hB d12_0) ?_
    refine XS.istore X0.here hx rfl (hB d12_1) rfl (l' := #[.val (.ref a1), .val (.int 0), .val (.ref a2), .val (.int 0), .val (.int 4), .val (.int 0), .unset]) rfl ?_
    refine XS.iload X0.here hx rfl (hB d12_3) rfl ?_
    refine XS.iload X0.here hx rfl (hB d12_5) rfl ?_
    refine XS.icmpNo X0.here hx rfl (hB d12_7) rfl (tlt (by decide : (0 : Int32) < (4 : Int32))).2.1 ?_
    refine XS.aloadN X0.here hx rfl (hB d12_10) rfl rfl ?_
    refine XS.iloadN X0.here hx rfl (hB d12_11) rfl ?_
    refine X0.caload hx (j := (0 : Int32)) (v := (.int c0)) (own_cell e0 Arq320.1) (State.isArrayOf_alike hZ.alike Arq320.2.1) Arq320.2.2 hinq320 hatq320 (g := (mkF m 12 #[.val (.ref a1), .val (.int 0), .val (.ref a2), .val (.int 0), .val (.int 4), .val (.int 0), .unset] [.int 0, .ref a1])) rfl rfl (hB d12_12) _ ?_
    refine XS.istore X0.here hx rfl (hB d12_13) rfl (l' := #[.val (.ref a1), .val (.int 0), .val (.ref a2), .val (.int 0), .val (.int 4), .val (.int 0), .val (.int c0)]) rfl ?_
    refine XS.iload X0.here hx rfl (hB d12_15) rfl ?_
    refine XS.sipush X0.here hx rfl (hB d12_17) ?_
    refine XS.icmpYes X0.here hx rfl (pc0 := 20) (pc' := 26) rfl (hB d12_20) rfl (flt (hl0 : ¬ ((255 : Int32) < c0))).2.2.2 (by decide) (by decide) ?_
    refine XS.aloadN X0.here hx rfl (hB d12_26) rfl rfl ?_
    refine XS.iloadN X0.here hx rfl (hB d12_27) rfl ?_
    refine XS.iload X0.here hx rfl (hB d12_28) rfl ?_
    refine XS.i2b X0.here hx rfl (hB d12_30) rfl ?_
    show Steps _ _ _ (s₁.setTop (mkF m 31 #[.val (.ref a1), .val (.int 0), .val (.ref a2), .val (.int 0), .val (.int 4), .val (.int 0), .val (.int c0)] [(.int (c0.toInt8.toInt32)), .int 0, .ref a2])) _
    refine st322 _ ?_
    show Steps _ _ _ (T322.setTop (mkF m 32 #[.val (.ref a1), .val (.int 0), .val (.ref a2), .val (.int 0), .val (.int 4), .val (.int 0), .val (.int c0)] [])) _
    refine XS.iinc X322.here hx rfl (hB d12_32) rfl (l' := #[.val (.ref a1), .val (.int 1), .val (.ref a2), .val (.int 0), .val (.int 4), .val (.int 0), .val (.int c0)]) rfl ?_
    refine XS.iinc X322.here hx rfl (hB d12_35) rfl (l' := #[.val (.ref a1), .val (.int 1), .val (.ref a2), .val (.int 1), .val (.int 4), .val (.int 0), .val (.int c0)]) rfl ?_
    refine XS.iinc X322.here hx rfl (hB d12_38) rfl (l' := #[.val (.ref a1), .val (.int 1), .val (.ref a2), .val (.int 1), .val (.int 4), .val (.int 1), .val (.int c0)]) rfl ?_
    refine XS.goto X322.here hx rfl (pc0 := 41) (pc' := 3) rfl (hB d12_41) (by decide) (by decide) ?_
    refine XS.iload X322.here hx rfl (hB d12_3) rfl ?_
    refine XS.iload X322.here hx rfl (hB d12_5) rfl ?_
    refine XS.icmpNo X322.here hx rfl (hB d12_7) rfl (tlt (by decide : (1 : Int32) < (4 : Int32))).2.1 ?_
    refine XS.aloadN X322.here hx rfl (hB d12_10) rfl rfl ?_
    refine XS.iloadN X322.here hx rfl (hB d12_11) rfl ?_
    refine X322.caload hx (j := (1 : Int32)) (v := (.int c1)) (own_cell e322 Arq325.1) (State.isArrayOf_alike hZ.alike Arq325.2.1) Arq325.2.2 hinq325 hatq325 (g := (mkF m 12 #[.val (.ref a1), .val (.int 1), .val (.ref a2), .val (.int 1), .val (.int 4), .val (.int 1), .val (.int c0)] [.int 1, .ref a1])) rfl rfl (hB d12_12) _ ?_
    refine XS.istore X322.here hx rfl (hB d12_13) rfl (l' := #[.val (.ref a1), .val (.int 1), .val (.ref a2), .val (.int 1), .val (.int 4), .val (.int 1), .val (.int c1)]) rfl ?_
    refine XS.iload X322.here hx rfl (hB d12_15) rfl ?_
    refine XS.sipush X322.here hx rfl (hB d12_17) ?_
    refine XS.icmpYes X322.here hx rfl (pc0 := 20) (pc' := 26) rfl (hB d12_20) rfl (flt (hl1 : ¬ ((255 : Int32) < c1))).2.2.2 (by decide) (by decide) ?_
    refine XS.aloadN X322.here hx rfl (hB d12_26) rfl rfl ?_
    refine XS.iloadN X322.here hx rfl (hB d12_27) rfl ?_
    show Steps _ _ _ (T322.setTop (mkF m 28 #[.val (.ref a1), .val (.int 1), .val (.ref a2), .val (.int 1), .val (.int 4), .val (.int 1), .val (.int c1)] [.int 1, .ref a2])) _
    refine XS.iload X322.here hx rfl (hB d12_28) rfl ?_
    refine XS.i2b X322.here hx rfl (hB d12_30) rfl ?_
    refine st327 _ ?_
    show Steps _ _ _ (T327.setTop (mkF m 32 #[.val (.ref a1), .val (.int 1), .val (.ref a2), .val (.int 1), .val (.int 4), .val (.int 1), .val (.int c1)] [])) _
    refine XS.iinc X327.here hx rfl (hB d12_32) rfl (l' := #[.val (.ref a1), .val (.int 2), .val (.ref a2), .val (.int 1), .val (.int 4), .val (.int 1), .val (.int c1)]) rfl ?_
    refine XS.iinc X327.here hx rfl (hB d12_35) rfl (l' := #[.val (.ref a1), .val (.int 2), .val (.ref a2), .val (.int 2), .val (.int 4), .val (.int 1), .val (.int c1)]) rfl ?_
    refine XS.iinc X327.here hx rfl (hB d12_38) rfl (l' := #[.val (.ref a1), .val (.int 2), .val (.ref a2), .val (.int 2), .val (.int 4), .val (.int 2), .val (.int c1)]) rfl ?_
    refine XS.goto X327.here hx rfl (pc0 := 41) (pc' := 3) rfl (hB d12_41) (by decide) (by decide) ?_
    refine XS.iload X327.here hx rfl (hB d12_3) rfl ?_
    refine XS.iload X327.here hx rfl (hB d12_5) rfl ?_
    refine XS.icmpNo X327.here hx rfl (hB d12_7) rfl (tlt (by decide : (2 : Int32) < (4 : Int32))).2.1 ?_
    refine XS.aloadN X327.here hx rfl (hB d12_10) rfl rfl ?_
    refine XS.iloadN X327.here hx rfl (hB d12_11) rfl ?_
    refine X327.caload hx (j := (2 : Int32)) (v := (.int c2)) (own_cell e327 Arq330.1) (State.isArrayOf_alike hZ.alike Arq330.2.1) Arq330.2.2 hinq330 hatq330 (g := (mkF m 12 #[.val (.ref a1), .val (.int 2), .val (.ref a2), .val (.int 2), .val (.int 4), .val (.int 2), .val (.int c1)] [.int 2, .ref a1])) rfl rfl (hB d12_12) _ ?_
    refine XS.istore X327.here hx rfl (hB d12_13) rfl (l' := #[.val (.ref a1), .val (.int 2), .val (.ref a2), .val (.int 2), .val (.int 4), .val (.int 2), .val (.int c2)]) rfl ?_
    refine XS.iload X327.here hx rfl (hB d12_15) rfl ?_
    refine XS.sipush X327.here hx rfl (hB d12_17) ?_
    refine XS.icmpNo X327.here hx rfl (hB d12_20) rfl (tlt (hwd : (255 : Int32) < c2)).2.2.2 ?_
    refine XS.iload X327.here hx rfl (hB d12_23) rfl ?_
    exact retOut X327 hx Bd.returns rfl (Or.inl ⟨rfl, Or.inl rfl, _, rfl⟩) (hB d12_25) hr
  · show Qc5W4 Z G1 fm a1 a2 ka kb c0 c1 c2 c3 h0 n0 _ T327.heap _
    rw [e327]
    exact ⟨(2 : Int32), rfl, N327, K0_328, ⟨2, c2, rfl, rfl, hwd⟩⟩
theorem rmc5W4_3 (l : Launch) (Z : State) (a0 : Array Value) (G1 : Int32) (fm : Value) (hG : Glob Z a0 G1 fm) (ws : List Jvm.Cond) (a1 : Addr) (a2 : Addr) (ka : ClassId) (kb : ClassId) (c0 : Int32) (c1 : Int32) (c2 : Int32) (c3 : Int32) (h0 : Heap) (n0 : Nat) (Z0 : n0 ≤ h0.size) (X00 : Old Z n0 h0) (V_a1 : Arv Z h0 a1 ka .char (4 : Int32) [.int c0, .int c1, .int c2, .int c3] (.int 0)) (V_a2 : Arv Z h0 a2 kb .byte (4 : Int32) [.int 0, .int 0, .int 0, .int 0] (.int 0)) (g_a2 : n0 ≤ a2) (ne_a1_a2 : a1 ≠ a2) (hwid : ¬ (¬ ((255 : Int32) < c0) ∧ ¬ ((255 : Int32) < c1) ∧ ¬ ((255 : Int32) < c2) ∧ ¬ ((255 : Int32) < c3))) (hl0 : ¬ ((255 : Int32) < c0)) (hl1 : ¬ ((255 : Int32) < c1)) (hl2 : ¬ ((255 : Int32) < c2)) (hwd : (255 : Int32) < c3) :
    Met l Z h0 y12 jdk_52_method_21_code 7 (some .int) ws (Room.mk 0 0 0 0) #[.ref a1, .int 0, .ref a2, .int 0, .int 4] (Qc5W4 Z G1 fm a1 a2 ka kb c0 c1 c2 c3 h0 n0) := by
  obtain ⟨hw, O_cs, P_cs, O_as, O_hi, O_lo, O_fm, R_fm⟩ := id hG
  have W := @own_W _ _ hw
  refine own_go "java/lang/StringUTF16" rfl (plainFor_of_name pn_java_lang_StringUTF16) ?_
  intro p e s m below meth c s₁ Bd hx hby hml hown hnm X0 e0 hZ
  have hB := @hb _ _ hby
  have N0 := Fr.nil n0
  obtain ⟨clq331, Arq331, qaq331, Sq331, Nq331, Hq331, Gq331⟩ := id V_a1
  have hinq331 := inb_of (j := (0 : Int32)) Sq331 ⟨by decide, by decide⟩
  have hatq331 := Has.at (v := (.int c0)) Hq331 hinq331 rfl
  obtain ⟨clq332, Arq332, qaq332, Sq332, Nq332, Hq332, Gq332⟩ := id V_a2
  have hinq332 := inb_of (j := (0 : Int32)) Sq332 ⟨by decide, by decide⟩
  obtain ⟨T333, h333, X333, e333, W333, st333⟩ := stB X0 hx hZ e0 Arq332 (j := (0 : Int32)) hinq332 (g := (mkF m 31 #[.val (.ref a1), .val (.int 0), .val (.ref a2), .val (.int 0), .val (.int 4), .val (.int 0), .val (.int c0)] [(.int (c0.toInt8.toInt32)), .int 0, .ref a2])) rfl rfl (hB d12_31)
  have V333 : Arv Z h333 a2 kb .byte (4 : Int32) [(.int ((c0.toInt8.toInt32).toInt8.toInt32)), .int 0, .int 0, .int 0] (.int 0) := Arv.set Arq332 qaq332 Sq332 Nq332 Hq332 Gq332 (fits_nar_byte _) W333 0 rfl (own_ble rfl)
  have Z334 : n0 ≤ h333.size := Nat.le_trans Z0 (Keep.of_wr W333).1
  have K0_334 : Keep h0 h333 [a2] := (Keep.refl h0 [a2]).wr W333 (Or.inl (List.mem_of_getElem? (i := 0) rfl))
  have O334 : Old Z n0 h333 := X00.wr W333 g_a2
  have N333 := Fr.snoc X333 N0 g_a2
  have f335 := (V_a1.other W333 ne_a1_a2)
  obtain ⟨clq336, Arq336, qaq336, Sq336, Nq336, Hq336, Gq336⟩ := id f335
  have hinq336 := inb_of (j := (1 : Int32)) Sq336 ⟨by decide, by decide⟩
  have hatq336 := Has.at (v := (.int c1)) Hq336 hinq336 rfl
  obtain ⟨clq337, Arq337, qaq337, Sq337, Nq337, Hq337, Gq337⟩ := id V333
  have hinq337 := inb_of (j := (1 : Int32)) Sq337 ⟨by decide, by decide⟩
  obtain ⟨T338, h338, X338, e338, W338, st338⟩ := stB X333 hx hZ e333 Arq337 (j := (1 : Int32)) hinq337 (g := (mkF m 31 #[.val (.ref a1), .val (.int 1), .val (.ref a2), .val (.int 1), .val (.int 4), .val (.int 1), .val (.int c1)] [(.int (c1.toInt8.toInt32)), .int 1, .ref a2])) rfl rfl (hB d12_31)
  have V338 : Arv Z h338 a2 kb .byte (4 : Int32) [(.int ((c0.toInt8.toInt32).toInt8.toInt32)), (.int ((c1.toInt8.toInt32).toInt8.toInt32)), .int 0, .int 0] (.int 0) := Arv.set Arq337 qaq337 Sq337 Nq337 Hq337 Gq337 (fits_nar_byte _) W338 1 rfl (own_ble rfl)
  have Z339 : n0 ≤ h338.size := Nat.le_trans Z334 (Keep.of_wr W338).1
  have K0_339 : Keep h0 h338 [a2] := K0_334.wr W338 (Or.inl (List.mem_of_getElem? (i := 0) rfl))
  have O339 : Old Z n0 h338 := O334.wr W338 g_a2
  have N338 := Fr.snoc X338 N333 g_a2
  have f340 := (f335.other W338 ne_a1_a2)
  obtain ⟨clq341, Arq341, qaq341, Sq341, Nq341, Hq341, Gq341⟩ := id f340
  have hinq341 := inb_of (j := (2 : Int32)) Sq341 ⟨by decide, by decide⟩
  have hatq341 := Has.at (v := (.int c2)) Hq341 hinq341 rfl
  obtain ⟨clq342, Arq342, qaq342, Sq342, Nq342, Hq342, Gq342⟩ := id V338
  have hinq342 := inb_of (j := (2 : Int32)) Sq342 ⟨by decide, by decide⟩
  obtain ⟨T343, h343, X343, e343, W343, st343⟩ := stB X338 hx hZ e338 Arq342 (j := (2 : Int32)) hinq342 (g := (mkF m 31 #[.val (.ref a1), .val (.int 2), .val (.ref a2), .val (.int 2), .val (.int 4), .val (.int 2), .val (.int c2)] [(.int (c2.toInt8.toInt32)), .int 2, .ref a2])) rfl rfl (hB d12_31)
  have V343 : Arv Z h343 a2 kb .byte (4 : Int32) [(.int ((c0.toInt8.toInt32).toInt8.toInt32)), (.int ((c1.toInt8.toInt32).toInt8.toInt32)), (.int ((c2.toInt8.toInt32).toInt8.toInt32)), .int 0] (.int 0) := Arv.set Arq342 qaq342 Sq342 Nq342 Hq342 Gq342 (fits_nar_byte _) W343 2 rfl (own_ble rfl)
  have Z344 : n0 ≤ h343.size := Nat.le_trans Z339 (Keep.of_wr W343).1
  have K0_344 : Keep h0 h343 [a2] := K0_339.wr W343 (Or.inl (List.mem_of_getElem? (i := 0) rfl))
  have O344 : Old Z n0 h343 := O339.wr W343 g_a2
  have N343 := Fr.snoc X343 N338 g_a2
  have f345 := (f340.other W343 ne_a1_a2)
  obtain ⟨clq346, Arq346, qaq346, Sq346, Nq346, Hq346, Gq346⟩ := id f345
  have hinq346 := inb_of (j := (3 : Int32)) Sq346 ⟨by decide, by decide⟩
  have hatq346 := Has.at (v := (.int c3)) Hq346 hinq346 rfl
  obtain ⟨fs, hr, hrun, hended, hW, hsame⟩ := X343.leave (v := some (.int 3)) (fun h => by rw [Bd.returns] at h; cases h)
  refine ⟨_, _, castTop (ef_jdk_52_method_21_code_RIRII m a1 (0 : Int32) a2 (0 : Int32) (4 : Int32)) ?_, hrun, hended, _, _, rfl, ?_, ⟨_, rfl⟩, hW, hsame.mono (own_ble rfl) (own_ble rfl)⟩
  · show Steps _ _ _ (s₁.setTop (mkF m 0 #[.val (.ref a1), .val (.int 0), .val (.ref a2), .val (.int 0), .val (.int 4), .unset, .unset] [])) _
    refine XS.iconst X0.here hx rfl (hB d12_0) ?_
    refine XS.istore X0.here hx rfl (hB d12_1) rfl (l' := #[.val (.ref a1), .val (.int 0), .val (.ref a2), .val (.int 0), .val (.int 4), .val (.int 0), .unset]) rfl ?_
    refine XS.iload X0.here hx rfl (hB d12_3) rfl ?_
    refine XS.iload X0.here hx rfl (hB d12_5) rfl ?_
    refine XS.icmpNo X0.here hx rfl (hB d12_7) rfl (tlt (by decide : (0 : Int32) < (4 : Int32))).2.1 ?_
    refine XS.aloadN X0.here hx rfl (hB d12_10) rfl rfl ?_
    refine XS.iloadN X0.here hx rfl (hB d12_11) rfl ?_
    refine X0.caload hx (j := (0 : Int32)) (v := (.int c0)) (own_cell e0 Arq331.1) (State.isArrayOf_alike hZ.alike Arq331.2.1) Arq331.2.2 hinq331 hatq331 (g := (mkF m 12 #[.val (.ref a1), .val (.int 0), .val (.ref a2), .val (.int 0), .val (.int 4), .val (.int 0), .unset] [.int 0, .ref a1])) rfl rfl (hB d12_12) _ ?_
    refine XS.istore X0.here hx rfl (hB d12_13) rfl (l' := #[.val (.ref a1), .val (.int 0), .val (.ref a2), .val (.int 0), .val (.int 4), .val (.int 0), .val (.int c0)]) rfl ?_
    refine XS.iload X0.here hx rfl (hB d12_15) rfl ?_
    refine XS.sipush X0.here hx rfl (hB d12_17) ?_
    refine XS.icmpYes X0.here hx rfl (pc0 := 20) (pc' := 26) rfl (hB d12_20) rfl (flt (hl0 : ¬ ((255 : Int32) < c0))).2.2.2 (by decide) (by decide) ?_
    refine XS.aloadN X0.here hx rfl (hB d12_26) rfl rfl ?_
    refine XS.iloadN X0.here hx rfl (hB d12_27) rfl ?_
    refine XS.iload X0.here hx rfl (hB d12_28) rfl ?_
    refine XS.i2b X0.here hx rfl (hB d12_30) rfl ?_
    show Steps _ _ _ (s₁.setTop (mkF m 31 #[.val (.ref a1), .val (.int 0), .val (.ref a2), .val (.int 0), .val (.int 4), .val (.int 0), .val (.int c0)] [(.int (c0.toInt8.toInt32)), .int 0, .ref a2])) _
    refine st333 _ ?_
    show Steps _ _ _ (T333.setTop (mkF m 32 #[.val (.ref a1), .val (.int 0), .val (.ref a2), .val (.int 0), .val (.int 4), .val (.int 0), .val (.int c0)] [])) _
    refine XS.iinc X333.here hx rfl (hB d12_32) rfl (l' := #[.val (.ref a1), .val (.int 1), .val (.ref a2), .val (.int 0), .val (.int 4), .val (.int 0), .val (.int c0)]) rfl ?_
    refine XS.iinc X333.here hx rfl (hB d12_35) rfl (l' := #[.val (.ref a1), .val (.int 1), .val (.ref a2), .val (.int 1), .val (.int 4), .val (.int 0), .val (.int c0)]) rfl ?_
    refine XS.iinc X333.here hx rfl (hB d12_38) rfl (l' := #[.val (.ref a1), .val (.int 1), .val (.ref a2), .val (.int 1), .val (.int 4), .val (.int 1), .val (.int c0)]) rfl ?_
    refine XS.goto X333.here hx rfl (pc0 := 41) (pc' := 3) rfl (hB d12_41) (by decide) (by decide) ?_
    refine XS.iload X333.here hx rfl (hB d12_3) rfl ?_
    refine XS.iload X333.here hx rfl (hB d12_5) rfl ?_
    refine XS.icmpNo X333.here hx rfl (hB d12_7) rfl (tlt (by decide : (1 : Int32) < (4 : Int32))).2.1 ?_
    refine XS.aloadN X333.here hx rfl (hB d12_10) rfl rfl ?_
    refine XS.iloadN X333.here hx rfl (hB d12_11) rfl ?_
    refine X333.caload hx (j := (1 : Int32)) (v := (.int c1)) (own_cell e333 Arq336.1) (State.isArrayOf_alike hZ.alike Arq336.2.1) Arq336.2.2 hinq336 hatq336 (g := (mkF m 12 #[.val (.ref a1), .val (.int 1), .val (.ref a2), .val (.int 1), .val (.int 4), .val (.int 1), .val (.int c0)] [.int 1, .ref a1])) rfl rfl (hB d12_12) _ ?_
    refine XS.istore X333.here hx rfl (hB d12_13) rfl (l' := #[.val (.ref a1), .val (.int 1), .val (.ref a2), .val (.int 1), .val (.int 4), .val (.int 1), .val (.int c1)]) rfl ?_
    refine XS.iload X333.here hx rfl (hB d12_15) rfl ?_
    refine XS.sipush X333.here hx rfl (hB d12_17) ?_
    refine XS.icmpYes X333.here hx rfl (pc0 := 20) (pc' := 26) rfl (hB d12_20) rfl (flt (hl1 : ¬ ((255 : Int32) < c1))).2.2.2 (by decide) (by decide) ?_
    refine XS.aloadN X333.here hx rfl (hB d12_26) rfl rfl ?_
    refine XS.iloadN X333.here hx rfl (hB d12_27) rfl ?_
    show Steps _ _ _ (T333.setTop (mkF m 28 #[.val (.ref a1), .val (.int 1), .val (.ref a2), .val (.int 1), .val (.int 4), .val (.int 1), .val (.int c1)] [.int 1, .ref a2])) _
    refine XS.iload X333.here hx rfl (hB d12_28) rfl ?_
    refine XS.i2b X333.here hx rfl (hB d12_30) rfl ?_
    refine st338 _ ?_
    show Steps _ _ _ (T338.setTop (mkF m 32 #[.val (.ref a1), .val (.int 1), .val (.ref a2), .val (.int 1), .val (.int 4), .val (.int 1), .val (.int c1)] [])) _
    refine XS.iinc X338.here hx rfl (hB d12_32) rfl (l' := #[.val (.ref a1), .val (.int 2), .val (.ref a2), .val (.int 1), .val (.int 4), .val (.int 1), .val (.int c1)]) rfl ?_
    refine XS.iinc X338.here hx rfl (hB d12_35) rfl (l' := #[.val (.ref a1), .val (.int 2), .val (.ref a2), .val (.int 2), .val (.int 4), .val (.int 1), .val (.int c1)]) rfl ?_
    refine XS.iinc X338.here hx rfl (hB d12_38) rfl (l' := #[.val (.ref a1), .val (.int 2), .val (.ref a2), .val (.int 2), .val (.int 4), .val (.int 2), .val (.int c1)]) rfl ?_
    refine XS.goto X338.here hx rfl (pc0 := 41) (pc' := 3) rfl (hB d12_41) (by decide) (by decide) ?_
    refine XS.iload X338.here hx rfl (hB d12_3) rfl ?_
    refine XS.iload X338.here hx rfl (hB d12_5) rfl ?_
    refine XS.icmpNo X338.here hx rfl (hB d12_7) rfl (tlt (by decide : (2 : Int32) < (4 : Int32))).2.1 ?_
    refine XS.aloadN X338.here hx rfl (hB d12_10) rfl rfl ?_
    refine XS.iloadN X338.here hx rfl (hB d12_11) rfl ?_
    refine X338.caload hx (j := (2 : Int32)) (v := (.int c2)) (own_cell e338 Arq341.1) (State.isArrayOf_alike hZ.alike Arq341.2.1) Arq341.2.2 hinq341 hatq341 (g := (mkF m 12 #[.val (.ref a1), .val (.int 2), .val (.ref a2), .val (.int 2), .val (.int 4), .val (.int 2), .val (.int c1)] [.int 2, .ref a1])) rfl rfl (hB d12_12) _ ?_
    refine XS.istore X338.here hx rfl (hB d12_13) rfl (l' := #[.val (.ref a1), .val (.int 2), .val (.ref a2), .val (.int 2), .val (.int 4), .val (.int 2), .val (.int c2)]) rfl ?_
    refine XS.iload X338.here hx rfl (hB d12_15) rfl ?_
    refine XS.sipush X338.here hx rfl (hB d12_17) ?_
    refine XS.icmpYes X338.here hx rfl (pc0 := 20) (pc' := 26) rfl (hB d12_20) rfl (flt (hl2 : ¬ ((255 : Int32) < c2))).2.2.2 (by decide) (by decide) ?_
    refine XS.aloadN X338.here hx rfl (hB d12_26) rfl rfl ?_
    refine XS.iloadN X338.here hx rfl (hB d12_27) rfl ?_
    show Steps _ _ _ (T338.setTop (mkF m 28 #[.val (.ref a1), .val (.int 2), .val (.ref a2), .val (.int 2), .val (.int 4), .val (.int 2), .val (.int c2)] [.int 2, .ref a2])) _
    refine XS.iload X338.here hx rfl (hB d12_28) rfl ?_
    refine XS.i2b X338.here hx rfl (hB d12_30) rfl ?_
    refine st343 _ ?_
    show Steps _ _ _ (T343.setTop (mkF m 32 #[.val (.ref a1), .val (.int 2), .val (.ref a2), .val (.int 2), .val (.int 4), .val (.int 2), .val (.int c2)] [])) _
    refine XS.iinc X343.here hx rfl (hB d12_32) rfl (l' := #[.val (.ref a1), .val (.int 3), .val (.ref a2), .val (.int 2), .val (.int 4), .val (.int 2), .val (.int c2)]) rfl ?_
    refine XS.iinc X343.here hx rfl (hB d12_35) rfl (l' := #[.val (.ref a1), .val (.int 3), .val (.ref a2), .val (.int 3), .val (.int 4), .val (.int 2), .val (.int c2)]) rfl ?_
    refine XS.iinc X343.here hx rfl (hB d12_38) rfl (l' := #[.val (.ref a1), .val (.int 3), .val (.ref a2), .val (.int 3), .val (.int 4), .val (.int 3), .val (.int c2)]) rfl ?_
    refine XS.goto X343.here hx rfl (pc0 := 41) (pc' := 3) rfl (hB d12_41) (by decide) (by decide) ?_
    refine XS.iload X343.here hx rfl (hB d12_3) rfl ?_
    refine XS.iload X343.here hx rfl (hB d12_5) rfl ?_
    refine XS.icmpNo X343.here hx rfl (hB d12_7) rfl (tlt (by decide : (3 : Int32) < (4 : Int32))).2.1 ?_
    refine XS.aloadN X343.here hx rfl (hB d12_10) rfl rfl ?_
    refine XS.iloadN X343.here hx rfl (hB d12_11) rfl ?_
    refine X343.caload hx (j := (3 : Int32)) (v := (.int c3)) (own_cell e343 Arq346.1) (State.isArrayOf_alike hZ.alike Arq346.2.1) Arq346.2.2 hinq346 hatq346 (g := (mkF m 12 #[.val (.ref a1), .val (.int 3), .val (.ref a2), .val (.int 3), .val (.int 4), .val (.int 3), .val (.int c2)] [.int 3, .ref a1])) rfl rfl (hB d12_12) _ ?_
    refine XS.istore X343.here hx rfl (hB d12_13) rfl (l' := #[.val (.ref a1), .val (.int 3), .val (.ref a2), .val (.int 3), .val (.int 4), .val (.int 3), .val (.int c3)]) rfl ?_
    refine XS.iload X343.here hx rfl (hB d12_15) rfl ?_
    refine XS.sipush X343.here hx rfl (hB d12_17) ?_
    refine XS.icmpNo X343.here hx rfl (hB d12_20) rfl (tlt (hwd : (255 : Int32) < c3)).2.2.2 ?_
    refine XS.iload X343.here hx rfl (hB d12_23) rfl ?_
    exact retOut X343 hx Bd.returns rfl (Or.inl ⟨rfl, Or.inl rfl, _, rfl⟩) (hB d12_25) hr
  · show Qc5W4 Z G1 fm a1 a2 ka kb c0 c1 c2 c3 h0 n0 _ T343.heap _
    rw [e343]
    exact ⟨(3 : Int32), rfl, N343, K0_344, ⟨3, c3, rfl, rfl, hwd⟩⟩
theorem rmc5W4 (l : Launch) (Z : State) (a0 : Array Value) (G1 : Int32) (fm : Value) (hG : Glob Z a0 G1 fm) (ws : List Jvm.Cond) (a1 : Addr) (a2 : Addr) (ka : ClassId) (kb : ClassId) (c0 : Int32) (c1 : Int32) (c2 : Int32) (c3 : Int32) (h0 : Heap) (n0 : Nat) (Z0 : n0 ≤ h0.size) (X00 : Old Z n0 h0) (V_a1 : Arv Z h0 a1 ka .char (4 : Int32) [.int c0, .int c1, .int c2, .int c3] (.int 0)) (V_a2 : Arv Z h0 a2 kb .byte (4 : Int32) [.int 0, .int 0, .int 0, .int 0] (.int 0)) (g_a2 : n0 ≤ a2) (ne_a1_a2 : a1 ≠ a2) (hwid : ¬ (¬ ((255 : Int32) < c0) ∧ ¬ ((255 : Int32) < c1) ∧ ¬ ((255 : Int32) < c2) ∧ ¬ ((255 : Int32) < c3))) :
    Met l Z h0 y12 jdk_52_method_21_code 7 (some .int) ws (Room.mk 0 0 0 0) #[.ref a1, .int 0, .ref a2, .int 0, .int 4] (Qc5W4 Z G1 fm a1 a2 ka kb c0 c1 c2 c3 h0 n0) := by
  by_cases q0 : (255 : Int32) < c0
  · exact rmc5W4_0 l Z a0 G1 fm hG ws a1 a2 ka kb c0 c1 c2 c3 h0 n0 Z0 X00 V_a1 V_a2 g_a2 ne_a1_a2 hwid q0
  by_cases q1 : (255 : Int32) < c1
  · exact rmc5W4_1 l Z a0 G1 fm hG ws a1 a2 ka kb c0 c1 c2 c3 h0 n0 Z0 X00 V_a1 V_a2 g_a2 ne_a1_a2 hwid q0 q1
  by_cases q2 : (255 : Int32) < c2
  · exact rmc5W4_2 l Z a0 G1 fm hG ws a1 a2 ka kb c0 c1 c2 c3 h0 n0 Z0 X00 V_a1 V_a2 g_a2 ne_a1_a2 hwid q0 q1 q2
  by_cases q3 : (255 : Int32) < c3
  · exact rmc5W4_3 l Z a0 G1 fm hG ws a1 a2 ka kb c0 c1 c2 c3 h0 n0 Z0 X00 V_a1 V_a2 g_a2 ne_a1_a2 hwid q0 q1 q2 q3
  exact absurd ⟨q0, q1, q2, q3⟩ hwid
def Qnbl4 (Z : State) (G1 : Int32) (fm : Value) (h0 : Heap) (n0 : Nat) (v : Option Value) (h : Heap) (L : List Loc) : Prop := v = some (.int 8) ∧ Fr n0 L ∧ h = h0
theorem rmnbl4 (l : Launch) (Z : State) (a0 : Array Value) (G1 : Int32) (fm : Value) (hG : Glob Z a0 G1 fm) (ws : List Jvm.Cond) (h0 : Heap) (n0 : Nat) (Z0 : n0 ≤ h0.size) (X00 : Old Z n0 h0) :
    Met l Z h0 y13 jdk_52_method_3_code 1 (some .int) ws (Room.mk 0 0 0 0) #[.int 4] (Qnbl4 Z G1 fm h0 n0) := by
  obtain ⟨hw, O_cs, P_cs, O_as, O_hi, O_lo, O_fm, R_fm⟩ := id hG
  have W := @own_W _ _ hw
  refine own_go "java/lang/StringUTF16" rfl (plainFor_of_name pn_java_lang_StringUTF16) ?_
  intro p e s m below meth c s₁ Bd hx hby hml hown hnm X0 e0 hZ
  have hB := @hb _ _ hby
  have N0 := Fr.nil n0
  obtain ⟨fs, hr, hrun, hended, hW, hsame⟩ := X0.leave (v := some (.int 8)) (fun h => by rw [Bd.returns] at h; cases h)
  refine ⟨_, _, castTop (ef_jdk_52_method_3_code_I m (4 : Int32)) ?_, hrun, hended, _, _, rfl, ?_, ⟨_, rfl⟩, hW, hsame.mono (own_ble rfl) (own_ble rfl)⟩
  · show Steps _ _ _ (s₁.setTop (mkF m 0 #[.val (.int 4)] [])) _
    refine XS.iloadN X0.here hx rfl (hB d13_0) rfl ?_
    refine XS.ifYes X0.here hx rfl (pc0 := 1) (pc' := 12) rfl (hB d13_1) rfl ((if0 _ _).trans (flt (by decide : ¬ ((4 : Int32) < (0 : Int32)))).2.1) (by decide) (by decide) ?_
    refine XS.iloadN X0.here hx rfl (hB d13_12) rfl ?_
    refine X0.ldcInt hx hown (mvT hZ (W 93 rfl)) (g := (mkF m 13 #[.val (.int 4)] [.int 4])) rfl (hB d13_13) _ ?_
    refine XS.icmpYes X0.here hx rfl (pc0 := 15) (pc' := 55) rfl (hB d13_15) rfl (tlt (by decide : (4 : Int32) < (1073741823 : Int32))).1 (by decide) (by decide) ?_
    refine XS.iloadN X0.here hx rfl (hB d13_55) rfl ?_
    refine XS.iconst X0.here hx rfl (hB d13_56) ?_
    refine XS.ishl X0.here hx rfl (hB d13_57) rfl ?_
    exact retOut X0 hx Bd.returns rfl (Or.inl ⟨rfl, Or.inl rfl, _, rfl⟩) (hB d13_58) hr
  · show Qnbl4 Z G1 fm h0 n0 _ s₁.heap _
    rw [e0]
    exact ⟨rfl, N0, rfl⟩
def Qnbf4 (Z : State) (G1 : Int32) (fm : Value) (h0 : Heap) (n0 : Nat) (v : Option Value) (h : Heap) (L : List Loc) : Prop := ∃ b : Addr, ∃ kb : ClassId, v = some (.ref b) ∧ Fr n0 L ∧ Keep h0 h [] ∧ h0.size ≤ b ∧ Arv Z h b kb .byte (8 : Int32) [.int 0, .int 0, .int 0, .int 0, .int 0, .int 0, .int 0, .int 0] (.int 0)
theorem rmnbf4 (l : Launch) (Z : State) (a0 : Array Value) (G1 : Int32) (fm : Value) (hG : Glob Z a0 G1 fm) (ws : List Jvm.Cond) (h0 : Heap) (n0 : Nat) (Z0 : n0 ≤ h0.size) (X00 : Old Z n0 h0) :
    Met l Z h0 y14 jdk_52_method_2_code 1 (some (.array .byte)) ws (Room.mk 1 1 8 12) #[.int 4] (Qnbf4 Z G1 fm h0 n0) := by
  obtain ⟨hw, O_cs, P_cs, O_as, O_hi, O_lo, O_fm, R_fm⟩ := id hG
  have W := @own_W _ _ hw
  refine own_go "java/lang/StringUTF16" rfl (plainFor_of_name pn_java_lang_StringUTF16) ?_
  intro p e s m below meth c s₁ Bd hx hby hml hown hnm X0 e0 hZ
  have hB := @hb _ _ hby
  have N0 := Fr.nil n0
  -- pc 1: java/lang/StringUTF16.newBytesLength
  obtain ⟨_, _, ⟨T347, L347, k347, n347⟩, -, X347, ⟨Lc347, hQ347, l347, y347, z347⟩, st347⟩ := Jvm.LawKit.callS X0 hx (y := y13) hown (mvT hZ (W 90 rfl)) (mvT hZ (W 91 rfl)) (mvT hZ (W 40 rfl)) (mvT hZ (W 92 rfl)) (by decide) (backOf (W := 0) (rmnbl4 l Z a0 G1 fm hG [] h0 n0 Z0 X00) hZ (W 92 rfl) (W 40 rfl) (by decide) (by decide)) (g := (mkF m 1 #[.val (.int 4)] [.int 4])) rfl (by rw [hml]; rfl) (argsL := [.int 4]) (rest := []) (lenOf pd__I_I rfl) rfl (by show 2 * 0 + _ ≤ _; exact Nat.le_of_eq rfl) (hB d14_1) (fun _ _ => ⟨rfl, e0, (by decide : 0 + 0 ≤ _), (by decide : 0 + 0 ≤ _)⟩)
  dsimp only [Pt.U, Pt.locs, Pt.cells, Pt.slots] at X347 l347 y347 z347 st347 hQ347
  subst l347 y347 z347
  obtain ⟨rfl, N347q, eq347⟩ := hQ347
  have N347 := Fr.app N0 N347q
  obtain ⟨T348, h348, k348, X348, e348, E348, A348, Q348, st348⟩ := newPE X347 hx hZ (W 16 rfl) eq347 (g := (mkF m 4 #[.val (.int 4)] [.int 8])) rfl (hB d14_4) rfl (by decide) (cap := 8) (by decide) (by decide) (by decide) (by decide) (ad := "[B") rfl
  obtain ⟨b348, g348⟩ : ∃ z, z = h0.size := ⟨_, rfl⟩
  rw [← g348] at A348 Q348 st348
  have Z349 : n0 ≤ h348.size := Nat.le_trans Z0 E348.1
  have K0_349 : Keep h0 h348 [] := (Keep.refl h0 []).ext E348
  have O349 : Old Z n0 h348 := X00.ext E348
  have lo_b348 : h0.size ≤ b348 := Nat.le_of_eq g348.symm
  have g_b348 : n0 ≤ b348 := Nat.le_trans Z0 lo_b348
  have l0_b348 : h0.size ≤ b348 := Nat.le_trans (Keep.refl h0 []).1 lo_b348
  have V_b348 : Arv Z h348 b348 k348 .byte (8 : Int32) [.int 0, .int 0, .int 0, .int 0, .int 0, .int 0, .int 0, .int 0] (.int 0) := (Arv.new A348 (by decide)).pad (pad_rep [] (.int 0) 8)
  obtain ⟨fs, hr, hrun, hended, hW, hsame⟩ := X348.leave (v := some (.ref b348)) (fun h => by rw [Bd.returns] at h; cases h)
  refine ⟨_, _, castTop (ef_jdk_52_method_2_code_I m (4 : Int32)) ?_, hrun, hended, _, _, rfl, ?_, ⟨_, rfl⟩, hW, hsame.mono (own_ble rfl) (own_ble rfl)⟩
  · show Steps _ _ _ (s₁.setTop (mkF m 0 #[.val (.int 4)] [])) _
    refine XS.iloadN X0.here hx rfl (hB d14_0) rfl ?_
    refine st347 _ ?_
    show Steps _ _ _ (T347.setTop (mkF m 4 #[.val (.int 4)] [.int 8])) _
    refine st348 _ ?_
    show Steps _ _ _ (T348.setTop (mkF m 6 #[.val (.int 4)] [.ref b348])) _
    exact retOut X348 hx Bd.returns rfl (Or.inr (Or.inr (Or.inr (Or.inr ⟨rfl, rfl, rfl⟩)))) (hB d14_6) hr
  · show Qnbf4 Z G1 fm h0 n0 _ T348.heap _
    rw [e348]
    exact ⟨b348, k348, rfl, N347, K0_349, l0_b348, V_b348⟩
def Qtob4 (Z : State) (G1 : Int32) (fm : Value) (a1 : Addr) (ka : ClassId) (c0 : Int32) (c1 : Int32) (c2 : Int32) (c3 : Int32) (h0 : Heap) (n0 : Nat) (v : Option Value) (h : Heap) (L : List Loc) : Prop := ∃ b : Addr, ∃ kb : ClassId, v = some (.ref b) ∧ Fr n0 L ∧ Keep h0 h [] ∧ h0.size ≤ b ∧ Arv Z h b kb .byte (8 : Int32) [(.int (((c0 >>> ((0 : Int32) &&& 31)).toInt8.toInt32).toInt8.toInt32)), (.int (((c0 >>> ((8 : Int32) &&& 31)).toInt8.toInt32).toInt8.toInt32)), (.int (((c1 >>> ((0 : Int32) &&& 31)).toInt8.toInt32).toInt8.toInt32)), (.int (((c1 >>> ((8 : Int32) &&& 31)).toInt8.toInt32).toInt8.toInt32)), (.int (((c2 >>> ((0 : Int32) &&& 31)).toInt8.toInt32).toInt8.toInt32)), (.int (((c2 >>> ((8 : Int32) &&& 31)).toInt8.toInt32).toInt8.toInt32)), (.int (((c3 >>> ((0 : Int32) &&& 31)).toInt8.toInt32).toInt8.toInt32)), (.int (((c3 >>> ((8 : Int32) &&& 31)).toInt8.toInt32).toInt8.toInt32))] (.int 0)
theorem rmtob4 (l : Launch) (Z : State) (a0 : Array Value) (G1 : Int32) (fm : Value) (hG : Glob Z a0 G1 fm) (ws : List Jvm.Cond) (a1 : Addr) (ka : ClassId) (c0 : Int32) (c1 : Int32) (c2 : Int32) (c3 : Int32) (h0 : Heap) (n0 : Nat) (Z0 : n0 ≤ h0.size) (X00 : Old Z n0 h0) (V_a1 : Arv Z h0 a1 ka .char (4 : Int32) [.int c0, .int c1, .int c2, .int c3] (.int 0)) :
    Met l Z h0 y15 jdk_52_method_14_code 5 (some (.array .byte)) ws (Room.mk 2 1 8 24) #[.ref a1, .int 0, .int 4] (Qtob4 Z G1 fm a1 ka c0 c1 c2 c3 h0 n0) := by
  obtain ⟨hw, O_cs, P_cs, O_as, O_hi, O_lo, O_fm, R_fm⟩ := id hG
  have W := @own_W _ _ hw
  refine own_go "java/lang/StringUTF16" rfl (plainFor_of_name pn_java_lang_StringUTF16) ?_
  intro p e s m below meth c s₁ Bd hx hby hml hown hnm X0 e0 hZ
  have hB := @hb _ _ hby
  have N0 := Fr.nil n0
  -- pc 1: java/lang/StringUTF16.newBytesFor
  obtain ⟨_, _, ⟨T350, L350, k350, n350⟩, -, X350, ⟨Lc350, hQ350, l350, y350, z350⟩, st350⟩ := Jvm.LawKit.callS X0 hx (y := y14) hown (mvT hZ (W 87 rfl)) (mvT hZ (W 88 rfl)) (mvT hZ (W 40 rfl)) (mvT hZ (W 89 rfl)) (by decide) (backOf (W := 0) (rmnbf4 l Z a0 G1 fm hG [] h0 n0 Z0 X00) hZ (W 89 rfl) (W 40 rfl) (by decide) (by decide)) (g := (mkF m 1 #[.val (.ref a1), .val (.int 0), .val (.int 4), .unset, .unset] [.int 4])) rfl (by rw [hml]; rfl) (argsL := [.int 4]) (rest := []) (lenOf pd__I__B rfl) rfl (by show 2 * 0 + _ ≤ _; exact Nat.le_of_eq rfl) (hB d15_1) (fun _ _ => ⟨rfl, e0, (by decide : 0 + 1 ≤ _), (by decide : 0 + 8 ≤ _)⟩)
  dsimp only [Pt.U, Pt.locs, Pt.cells, Pt.slots] at X350 l350 y350 z350 st350 hQ350
  subst l350 y350 z350
  obtain ⟨b_350, kb_350, rfl, N350q, K350, f350_0, f350_1⟩ := hQ350
  have N350 := Fr.app N0 N350q
  have Z351 : n0 ≤ T350.heap.size := Nat.le_trans Z0 K350.1
  have K0_351 : Keep h0 T350.heap [] := (Keep.refl h0 []).trans K350 all0
  have O351 : Old Z n0 T350.heap := X00.keep K350 all0
  have lo_b_350 : h0.size ≤ b_350 := f350_0
  have g_b_350 : n0 ≤ b_350 := Nat.le_trans Z0 lo_b_350
  have l0_b_350 : h0.size ≤ b_350 := Nat.le_trans (Keep.refl h0 []).1 lo_b_350
  have f352 := (V_a1.keep K350 nin0)
  obtain ⟨clq353, Arq353, qaq353, Sq353, Nq353, Hq353, Gq353⟩ := id f352
  have hinq353 := inb_of (j := (0 : Int32)) Sq353 ⟨by decide, by decide⟩
  have hatq353 := Has.at (v := (.int c0)) Hq353 hinq353 rfl
  -- pc 20: java/lang/StringUTF16.putChar
  obtain ⟨_, _, ⟨T354, L354, k354, n354⟩, -, X354, ⟨Lc354, hQ354, l354, y354, z354⟩, st354⟩ := Jvm.LawKit.callS X350 hx (y := y1) hown (mvT hZ (W 94 rfl)) (mvT hZ (W 95 rfl)) (mvT hZ (W 40 rfl)) (mvT hZ (W 96 rfl)) (by decide) (backOf (W := 0) (rmput l Z a0 G1 fm hG [] b_350 kb_350 (8 : Int32) ([.int 0, .int 0, .int 0, .int 0, .int 0, .int 0, .int 0, .int 0] : List Value) (0 : Int32) 0 c0 T350.heap n0 Z351 O351 f350_1 g_b_350 (by decide) (by decide) (own_ble rfl) (by decide) (by decide) (own_ble rfl)) hZ (W 96 rfl) (W 40 rfl) (by decide) (by decide)) (g := (mkF m 20 #[.val (.ref a1), .val (.int 0), .val (.int 4), .val (.ref b_350), .val (.int 0)] [.int c0, .int 0, .ref b_350])) rfl (by rw [hml]; rfl) (argsL := [.ref b_350, .int 0, .int c0]) (rest := []) (lenOf pd___BII_V rfl) rfl (by show 2 * 0 + _ ≤ _; exact Nat.le_of_eq rfl) (hB d15_20) (fun _ _ => ⟨rfl, rfl, (by decide : 1 + 0 ≤ _), (by decide : 8 + 0 ≤ _)⟩)
  dsimp only [Pt.U, Pt.locs, Pt.cells, Pt.slots] at X354 l354 y354 z354 st354 hQ354
  subst l354 y354 z354
  obtain ⟨rfl, N354q, K354, f354_0⟩ := hQ354
  have N354 := Fr.app N350 N354q
  have Z355 : n0 ≤ T354.heap.size := Nat.le_trans Z351 K354.1
  have K0_355 : Keep h0 T354.heap [] := K0_351.trans K354 (allS (Or.inr l0_b_350) all0)
  have O355 : Old Z n0 T354.heap := O351.keep K354 (allS g_b_350 all0)
  have cv354 : Arv Z T354.heap b_350 kb_350 .byte (8 : Int32) [(.int (((c0 >>> ((0 : Int32) &&& 31)).toInt8.toInt32).toInt8.toInt32)), (.int (((c0 >>> ((8 : Int32) &&& 31)).toInt8.toInt32).toInt8.toInt32)), .int 0, .int 0, .int 0, .int 0, .int 0, .int 0] (.int 0) := f354_0
  have f356 := (f352.keep K354 (ninS (Nat.ne_of_lt (Nat.lt_of_lt_of_le V_a1.lt lo_b_350)) nin0))
  obtain ⟨clq357, Arq357, qaq357, Sq357, Nq357, Hq357, Gq357⟩ := id f356
  have hinq357 := inb_of (j := (1 : Int32)) Sq357 ⟨by decide, by decide⟩
  have hatq357 := Has.at (v := (.int c1)) Hq357 hinq357 rfl
  -- pc 20: java/lang/StringUTF16.putChar
  obtain ⟨_, _, ⟨T358, L358, k358, n358⟩, -, X358, ⟨Lc358, hQ358, l358, y358, z358⟩, st358⟩ := Jvm.LawKit.callS X354 hx (y := y1) hown (mvT hZ (W 94 rfl)) (mvT hZ (W 95 rfl)) (mvT hZ (W 40 rfl)) (mvT hZ (W 96 rfl)) (by decide) (backOf (W := 0) (rmput l Z a0 G1 fm hG [] b_350 kb_350 (8 : Int32) ([(.int (((c0 >>> ((0 : Int32) &&& 31)).toInt8.toInt32).toInt8.toInt32)), (.int (((c0 >>> ((8 : Int32) &&& 31)).toInt8.toInt32).toInt8.toInt32)), .int 0, .int 0, .int 0, .int 0, .int 0, .int 0] : List Value) (1 : Int32) 2 c1 T354.heap n0 Z355 O355 cv354 g_b_350 (by decide) (by decide) (own_ble rfl) (by decide) (by decide) (own_ble rfl)) hZ (W 96 rfl) (W 40 rfl) (by decide) (by decide)) (g := (mkF m 20 #[.val (.ref a1), .val (.int 1), .val (.int 4), .val (.ref b_350), .val (.int 1)] [.int c1, .int 1, .ref b_350])) rfl (by rw [hml]; rfl) (argsL := [.ref b_350, .int 1, .int c1]) (rest := []) (lenOf pd___BII_V rfl) rfl (by show 2 * 0 + _ ≤ _; exact Nat.le_of_eq rfl) (hB d15_20) (fun _ _ => ⟨rfl, rfl, (by decide : 1 + 0 ≤ _), (by decide : 8 + 0 ≤ _)⟩)
  dsimp only [Pt.U, Pt.locs, Pt.cells, Pt.slots] at X358 l358 y358 z358 st358 hQ358
  subst l358 y358 z358
  obtain ⟨rfl, N358q, K358, f358_0⟩ := hQ358
  have N358 := Fr.app N354 N358q
  have Z359 : n0 ≤ T358.heap.size := Nat.le_trans Z355 K358.1
  have K0_359 : Keep h0 T358.heap [] := K0_355.trans K358 (allS (Or.inr l0_b_350) all0)
  have O359 : Old Z n0 T358.heap := O355.keep K358 (allS g_b_350 all0)
  have cv358 : Arv Z T358.heap b_350 kb_350 .byte (8 : Int32) [(.int (((c0 >>> ((0 : Int32) &&& 31)).toInt8.toInt32).toInt8.toInt32)), (.int (((c0 >>> ((8 : Int32) &&& 31)).toInt8.toInt32).toInt8.toInt32)), (.int (((c1 >>> ((0 : Int32) &&& 31)).toInt8.toInt32).toInt8.toInt32)), (.int (((c1 >>> ((8 : Int32) &&& 31)).toInt8.toInt32).toInt8.toInt32)), .int 0, .int 0, .int 0, .int 0] (.int 0) := f358_0
  have f360 := (f356.keep K358 (ninS (Nat.ne_of_lt (Nat.lt_of_lt_of_le V_a1.lt lo_b_350)) nin0))
  obtain ⟨clq361, Arq361, qaq361, Sq361, Nq361, Hq361, Gq361⟩ := id f360
  have hinq361 := inb_of (j := (2 : Int32)) Sq361 ⟨by decide, by decide⟩
  have hatq361 := Has.at (v := (.int c2)) Hq361 hinq361 rfl
  -- pc 20: java/lang/StringUTF16.putChar
  obtain ⟨_, _, ⟨T362, L362, k362, n362⟩, -, X362, ⟨Lc362, hQ362, l362, y362, z362⟩, st362⟩ := Jvm.LawKit.callS X358 hx (y := y1) hown (mvT hZ (W 94 rfl)) (mvT hZ (W 95 rfl)) (mvT hZ (W 40 rfl)) (mvT hZ (W 96 rfl)) (by decide) (backOf (W := 0) (rmput l Z a0 G1 fm hG [] b_350 kb_350 (8 : Int32) ([(.int (((c0 >>> ((0 : Int32) &&& 31)).toInt8.toInt32).toInt8.toInt32)), (.int (((c0 >>> ((8 : Int32) &&& 31)).toInt8.toInt32).toInt8.toInt32)), (.int (((c1 >>> ((0 : Int32) &&& 31)).toInt8.toInt32).toInt8.toInt32)), (.int (((c1 >>> ((8 : Int32) &&& 31)).toInt8.toInt32).toInt8.toInt32)), .int 0, .int 0, .int 0, .int 0] : List Value) (2 : Int32) 4 c2 T358.heap n0 Z359 O359 cv358 g_b_350 (by decide) (by decide) (own_ble rfl) (by decide) (by decide) (own_ble rfl)) hZ (W 96 rfl) (W 40 rfl) (by decide) (by decide)) (g := (mkF m 20 #[.val (.ref a1), .val (.int 2), .val (.int 4), .val (.ref b_350), .val (.int 2)] [.int c2, .int 2, .ref b_350])) rfl (by rw [hml]; rfl) (argsL := [.ref b_350, .int 2, .int c2]) (rest := []) (lenOf pd___BII_V rfl) rfl (by show 2 * 0 + _ ≤ _; exact Nat.le_of_eq rfl) (hB d15_20) (fun _ _ => ⟨rfl, rfl, (by decide : 1 + 0 ≤ _), (by decide : 8 + 0 ≤ _)⟩)
  dsimp only [Pt.U, Pt.locs, Pt.cells, Pt.slots] at X362 l362 y362 z362 st362 hQ362
  subst l362 y362 z362
  obtain ⟨rfl, N362q, K362, f362_0⟩ := hQ362
  have N362 := Fr.app N358 N362q
  have Z363 : n0 ≤ T362.heap.size := Nat.le_trans Z359 K362.1
  have K0_363 : Keep h0 T362.heap [] := K0_359.trans K362 (allS (Or.inr l0_b_350) all0)
  have O363 : Old Z n0 T362.heap := O359.keep K362 (allS g_b_350 all0)
  have cv362 : Arv Z T362.heap b_350 kb_350 .byte (8 : Int32) [(.int (((c0 >>> ((0 : Int32) &&& 31)).toInt8.toInt32).toInt8.toInt32)), (.int (((c0 >>> ((8 : Int32) &&& 31)).toInt8.toInt32).toInt8.toInt32)), (.int (((c1 >>> ((0 : Int32) &&& 31)).toInt8.toInt32).toInt8.toInt32)), (.int (((c1 >>> ((8 : Int32) &&& 31)).toInt8.toInt32).toInt8.toInt32)), (.int (((c2 >>> ((0 : Int32) &&& 31)).toInt8.toInt32).toInt8.toInt32)), (.int (((c2 >>> ((8 : Int32) &&& 31)).toInt8.toInt32).toInt8.toInt32)), .int 0, .int 0] (.int 0) := f362_0
  have f364 := (f360.keep K362 (ninS (Nat.ne_of_lt (Nat.lt_of_lt_of_le V_a1.lt lo_b_350)) nin0))
  obtain ⟨clq365, Arq365, qaq365, Sq365, Nq365, Hq365, Gq365⟩ := id f364
  have hinq365 := inb_of (j := (3 : Int32)) Sq365 ⟨by decide, by decide⟩
  have hatq365 := Has.at (v := (.int c3)) Hq365 hinq365 rfl
  -- pc 20: java/lang/StringUTF16.putChar
  obtain ⟨_, _, ⟨T366, L366, k366, n366⟩, -, X366, ⟨Lc366, hQ366, l366, y366, z366⟩, st366⟩ := Jvm.LawKit.callS X362 hx (y := y1) hown (mvT hZ (W 94 rfl)) (mvT hZ (W 95 rfl)) (mvT hZ (W 40 rfl)) (mvT hZ (W 96 rfl)) (by decide) (backOf (W := 0) (rmput l Z a0 G1 fm hG [] b_350 kb_350 (8 : Int32) ([(.int (((c0 >>> ((0 : Int32) &&& 31)).toInt8.toInt32).toInt8.toInt32)), (.int (((c0 >>> ((8 : Int32) &&& 31)).toInt8.toInt32).toInt8.toInt32)), (.int (((c1 >>> ((0 : Int32) &&& 31)).toInt8.toInt32).toInt8.toInt32)), (.int (((c1 >>> ((8 : Int32) &&& 31)).toInt8.toInt32).toInt8.toInt32)), (.int (((c2 >>> ((0 : Int32) &&& 31)).toInt8.toInt32).toInt8.toInt32)), (.int (((c2 >>> ((8 : Int32) &&& 31)).toInt8.toInt32).toInt8.toInt32)), .int 0, .int 0] : List Value) (3 : Int32) 6 c3 T362.heap n0 Z363 O363 cv362 g_b_350 (by decide) (by decide) (own_ble rfl) (by decide) (by decide) (own_ble rfl)) hZ (W 96 rfl) (W 40 rfl) (by decide) (by decide)) (g := (mkF m 20 #[.val (.ref a1), .val (.int 3), .val (.int 4), .val (.ref b_350), .val (.int 3)] [.int c3, .int 3, .ref b_350])) rfl (by rw [hml]; rfl) (argsL := [.ref b_350, .int 3, .int c3]) (rest := []) (lenOf pd___BII_V rfl) rfl (by show 2 * 0 + _ ≤ _; exact Nat.le_of_eq rfl) (hB d15_20) (fun _ _ => ⟨rfl, rfl, (by decide : 1 + 0 ≤ _), (by decide : 8 + 0 ≤ _)⟩)
  dsimp only [Pt.U, Pt.locs, Pt.cells, Pt.slots] at X366 l366 y366 z366 st366 hQ366
  subst l366 y366 z366
  obtain ⟨rfl, N366q, K366, f366_0⟩ := hQ366
  have N366 := Fr.app N362 N366q
  have Z367 : n0 ≤ T366.heap.size := Nat.le_trans Z363 K366.1
  have K0_367 : Keep h0 T366.heap [] := K0_363.trans K366 (allS (Or.inr l0_b_350) all0)
  have O367 : Old Z n0 T366.heap := O363.keep K366 (allS g_b_350 all0)
  have cv366 : Arv Z T366.heap b_350 kb_350 .byte (8 : Int32) [(.int (((c0 >>> ((0 : Int32) &&& 31)).toInt8.toInt32).toInt8.toInt32)), (.int (((c0 >>> ((8 : Int32) &&& 31)).toInt8.toInt32).toInt8.toInt32)), (.int (((c1 >>> ((0 : Int32) &&& 31)).toInt8.toInt32).toInt8.toInt32)), (.int (((c1 >>> ((8 : Int32) &&& 31)).toInt8.toInt32).toInt8.toInt32)), (.int (((c2 >>> ((0 : Int32) &&& 31)).toInt8.toInt32).toInt8.toInt32)), (.int (((c2 >>> ((8 : Int32) &&& 31)).toInt8.toInt32).toInt8.toInt32)), (.int (((c3 >>> ((0 : Int32) &&& 31)).toInt8.toInt32).toInt8.toInt32)), (.int (((c3 >>> ((8 : Int32) &&& 31)).toInt8.toInt32).toInt8.toInt32))] (.int 0) := f366_0
  obtain ⟨fs, hr, hrun, hended, hW, hsame⟩ := X366.leave (v := some (.ref b_350)) (fun h => by rw [Bd.returns] at h; cases h)
  refine ⟨_, _, castTop (ef_jdk_52_method_14_code_RII m a1 (0 : Int32) (4 : Int32)) ?_, hrun, hended, _, _, rfl, ?_, ⟨_, rfl⟩, hW, hsame.mono (own_ble rfl) (own_ble rfl)⟩
  · show Steps _ _ _ (s₁.setTop (mkF m 0 #[.val (.ref a1), .val (.int 0), .val (.int 4), .unset, .unset] [])) _
    refine XS.iloadN X0.here hx rfl (hB d15_0) rfl ?_
    refine st350 _ ?_
    show Steps _ _ _ (T350.setTop (mkF m 4 #[.val (.ref a1), .val (.int 0), .val (.int 4), .unset, .unset] [.ref b_350])) _
    refine XS.astoreN X350.here hx rfl (hB d15_4) rfl rfl (l' := #[.val (.ref a1), .val (.int 0), .val (.int 4), .val (.ref b_350), .unset]) rfl ?_
    refine XS.iconst X350.here hx rfl (hB d15_5) ?_
    refine XS.istore X350.here hx rfl (hB d15_6) rfl (l' := #[.val (.ref a1), .val (.int 0), .val (.int 4), .val (.ref b_350), .val (.int 0)]) rfl ?_
    refine XS.iload X350.here hx rfl (hB d15_8) rfl ?_
    refine XS.iloadN X350.here hx rfl (hB d15_10) rfl ?_
    refine XS.icmpNo X350.here hx rfl (hB d15_11) rfl (tlt (by decide : (0 : Int32) < (4 : Int32))).2.1 ?_
    refine XS.aloadN X350.here hx rfl (hB d15_14) rfl rfl ?_
    refine XS.iload X350.here hx rfl (hB d15_15) rfl ?_
    refine XS.aloadN X350.here hx rfl (hB d15_17) rfl rfl ?_
    refine XS.iloadN X350.here hx rfl (hB d15_18) rfl ?_
    refine X350.caload hx (j := (0 : Int32)) (v := (.int c0)) (own_cell rfl Arq353.1) (State.isArrayOf_alike hZ.alike Arq353.2.1) Arq353.2.2 hinq353 hatq353 (g := (mkF m 19 #[.val (.ref a1), .val (.int 0), .val (.int 4), .val (.ref b_350), .val (.int 0)] [.int 0, .ref a1, .int 0, .ref b_350])) rfl rfl (hB d15_19) _ ?_
    refine st354 _ ?_
    show Steps _ _ _ (T354.setTop (mkF m 23 #[.val (.ref a1), .val (.int 0), .val (.int 4), .val (.ref b_350), .val (.int 0)] [])) _
    refine XS.iinc X354.here hx rfl (hB d15_23) rfl (l' := #[.val (.ref a1), .val (.int 1), .val (.int 4), .val (.ref b_350), .val (.int 0)]) rfl ?_
    refine XS.iinc X354.here hx rfl (hB d15_26) rfl (l' := #[.val (.ref a1), .val (.int 1), .val (.int 4), .val (.ref b_350), .val (.int 1)]) rfl ?_
    refine XS.goto X354.here hx rfl (pc0 := 29) (pc' := 8) rfl (hB d15_29) (by decide) (by decide) ?_
    refine XS.iload X354.here hx rfl (hB d15_8) rfl ?_
    refine XS.iloadN X354.here hx rfl (hB d15_10) rfl ?_
    refine XS.icmpNo X354.here hx rfl (hB d15_11) rfl (tlt (by decide : (1 : Int32) < (4 : Int32))).2.1 ?_
    refine XS.aloadN X354.here hx rfl (hB d15_14) rfl rfl ?_
    refine XS.iload X354.here hx rfl (hB d15_15) rfl ?_
    refine XS.aloadN X354.here hx rfl (hB d15_17) rfl rfl ?_
    refine XS.iloadN X354.here hx rfl (hB d15_18) rfl ?_
    refine X354.caload hx (j := (1 : Int32)) (v := (.int c1)) (own_cell rfl Arq357.1) (State.isArrayOf_alike hZ.alike Arq357.2.1) Arq357.2.2 hinq357 hatq357 (g := (mkF m 19 #[.val (.ref a1), .val (.int 1), .val (.int 4), .val (.ref b_350), .val (.int 1)] [.int 1, .ref a1, .int 1, .ref b_350])) rfl rfl (hB d15_19) _ ?_
    refine st358 _ ?_
    show Steps _ _ _ (T358.setTop (mkF m 23 #[.val (.ref a1), .val (.int 1), .val (.int 4), .val (.ref b_350), .val (.int 1)] [])) _
    refine XS.iinc X358.here hx rfl (hB d15_23) rfl (l' := #[.val (.ref a1), .val (.int 2), .val (.int 4), .val (.ref b_350), .val (.int 1)]) rfl ?_
    refine XS.iinc X358.here hx rfl (hB d15_26) rfl (l' := #[.val (.ref a1), .val (.int 2), .val (.int 4), .val (.ref b_350), .val (.int 2)]) rfl ?_
    refine XS.goto X358.here hx rfl (pc0 := 29) (pc' := 8) rfl (hB d15_29) (by decide) (by decide) ?_
    refine XS.iload X358.here hx rfl (hB d15_8) rfl ?_
    refine XS.iloadN X358.here hx rfl (hB d15_10) rfl ?_
    refine XS.icmpNo X358.here hx rfl (hB d15_11) rfl (tlt (by decide : (2 : Int32) < (4 : Int32))).2.1 ?_
    refine XS.aloadN X358.here hx rfl (hB d15_14) rfl rfl ?_
    refine XS.iload X358.here hx rfl (hB d15_15) rfl ?_
    refine XS.aloadN X358.here hx rfl (hB d15_17) rfl rfl ?_
    refine XS.iloadN X358.here hx rfl (hB d15_18) rfl ?_
    refine X358.caload hx (j := (2 : Int32)) (v := (.int c2)) (own_cell rfl Arq361.1) (State.isArrayOf_alike hZ.alike Arq361.2.1) Arq361.2.2 hinq361 hatq361 (g := (mkF m 19 #[.val (.ref a1), .val (.int 2), .val (.int 4), .val (.ref b_350), .val (.int 2)] [.int 2, .ref a1, .int 2, .ref b_350])) rfl rfl (hB d15_19) _ ?_
    refine st362 _ ?_
    show Steps _ _ _ (T362.setTop (mkF m 23 #[.val (.ref a1), .val (.int 2), .val (.int 4), .val (.ref b_350), .val (.int 2)] [])) _
    refine XS.iinc X362.here hx rfl (hB d15_23) rfl (l' := #[.val (.ref a1), .val (.int 3), .val (.int 4), .val (.ref b_350), .val (.int 2)]) rfl ?_
    refine XS.iinc X362.here hx rfl (hB d15_26) rfl (l' := #[.val (.ref a1), .val (.int 3), .val (.int 4), .val (.ref b_350), .val (.int 3)]) rfl ?_
    refine XS.goto X362.here hx rfl (pc0 := 29) (pc' := 8) rfl (hB d15_29) (by decide) (by decide) ?_
    refine XS.iload X362.here hx rfl (hB d15_8) rfl ?_
    refine XS.iloadN X362.here hx rfl (hB d15_10) rfl ?_
    refine XS.icmpNo X362.here hx rfl (hB d15_11) rfl (tlt (by decide : (3 : Int32) < (4 : Int32))).2.1 ?_
    refine XS.aloadN X362.here hx rfl (hB d15_14) rfl rfl ?_
    refine XS.iload X362.here hx rfl (hB d15_15) rfl ?_
    refine XS.aloadN X362.here hx rfl (hB d15_17) rfl rfl ?_
    refine XS.iloadN X362.here hx rfl (hB d15_18) rfl ?_
    refine X362.caload hx (j := (3 : Int32)) (v := (.int c3)) (own_cell rfl Arq365.1) (State.isArrayOf_alike hZ.alike Arq365.2.1) Arq365.2.2 hinq365 hatq365 (g := (mkF m 19 #[.val (.ref a1), .val (.int 3), .val (.int 4), .val (.ref b_350), .val (.int 3)] [.int 3, .ref a1, .int 3, .ref b_350])) rfl rfl (hB d15_19) _ ?_
    refine st366 _ ?_
    show Steps _ _ _ (T366.setTop (mkF m 23 #[.val (.ref a1), .val (.int 3), .val (.int 4), .val (.ref b_350), .val (.int 3)] [])) _
    refine XS.iinc X366.here hx rfl (hB d15_23) rfl (l' := #[.val (.ref a1), .val (.int 4), .val (.int 4), .val (.ref b_350), .val (.int 3)]) rfl ?_
    refine XS.iinc X366.here hx rfl (hB d15_26) rfl (l' := #[.val (.ref a1), .val (.int 4), .val (.int 4), .val (.ref b_350), .val (.int 4)]) rfl ?_
    refine XS.goto X366.here hx rfl (pc0 := 29) (pc' := 8) rfl (hB d15_29) (by decide) (by decide) ?_
    refine XS.iload X366.here hx rfl (hB d15_8) rfl ?_
    refine XS.iloadN X366.here hx rfl (hB d15_10) rfl ?_
    refine XS.icmpYes X366.here hx rfl (pc0 := 11) (pc' := 32) rfl (hB d15_11) rfl (flt (by decide : ¬ ((4 : Int32) < (4 : Int32)))).2.1 (by decide) (by decide) ?_
    refine XS.aloadN X366.here hx rfl (hB d15_32) rfl rfl ?_
    exact retOut X366 hx Bd.returns rfl (Or.inr (Or.inr (Or.inr (Or.inr ⟨rfl, rfl, rfl⟩)))) (hB d15_33) hr
  · show Qtob4 Z G1 fm a1 ka c0 c1 c2 c3 h0 n0 _ T366.heap _
    exact ⟨b_350, kb_350, rfl, N366, K0_367, l0_b_350, cv366⟩
def Qc3L4 (Z : State) (G1 : Int32) (fm : Value) (a1 : Addr) (ka : ClassId) (c0 : Int32) (c1 : Int32) (c2 : Int32) (c3 : Int32) (h0 : Heap) (n0 : Nat) (v : Option Value) (h : Heap) (L : List Loc) : Prop := ∃ b : Addr, ∃ kb : ClassId, v = some (.ref b) ∧ Fr n0 L ∧ Keep h0 h [] ∧ h0.size ≤ b ∧ Arv Z h b kb .byte (4 : Int32) [(.int ((c0.toInt8.toInt32).toInt8.toInt32)), (.int ((c1.toInt8.toInt32).toInt8.toInt32)), (.int ((c2.toInt8.toInt32).toInt8.toInt32)), (.int ((c3.toInt8.toInt32).toInt8.toInt32))] (.int 0)
theorem rmc3L4 (l : Launch) (Z : State) (a0 : Array Value) (G1 : Int32) (fm : Value) (hG : Glob Z a0 G1 fm) (ws : List Jvm.Cond) (a1 : Addr) (ka : ClassId) (c0 : Int32) (c1 : Int32) (c2 : Int32) (c3 : Int32) (h0 : Heap) (n0 : Nat) (Z0 : n0 ≤ h0.size) (X00 : Old Z n0 h0) (V_a1 : Arv Z h0 a1 ka .char (4 : Int32) [.int c0, .int c1, .int c2, .int c3] (.int 0)) (hl0 : ¬ ((255 : Int32) < c0)) (hl1 : ¬ ((255 : Int32) < c1)) (hl2 : ¬ ((255 : Int32) < c2)) (hl3 : ¬ ((255 : Int32) < c3)) :
    Met l Z h0 y16 jdk_52_method_16_code 6 (some (.array .byte)) ws (Room.mk 1 1 4 18) #[.ref a1, .int 0, .int 4] (Qc3L4 Z G1 fm a1 ka c0 c1 c2 c3 h0 n0) := by
  obtain ⟨hw, O_cs, P_cs, O_as, O_hi, O_lo, O_fm, R_fm⟩ := id hG
  have W := @own_W _ _ hw
  refine own_go "java/lang/StringUTF16" rfl (plainFor_of_name pn_java_lang_StringUTF16) ?_
  intro p e s m below meth c s₁ Bd hx hby hml hown hnm X0 e0 hZ
  have hB := @hb _ _ hby
  have N0 := Fr.nil n0
  obtain ⟨T368, h368, k368, X368, e368, E368, A368, Q368, st368⟩ := newPE X0 hx hZ (W 16 rfl) e0 (g := (mkF m 1 #[.val (.ref a1), .val (.int 0), .val (.int 4), .unset, .unset, .unset] [.int 4])) rfl (hB d16_1) rfl (by decide) (cap := 4) (by decide) (by decide) (by decide) (by decide) (ad := "[B") rfl
  obtain ⟨b368, g368⟩ : ∃ z, z = h0.size := ⟨_, rfl⟩
  rw [← g368] at A368 Q368 st368
  have Z369 : n0 ≤ h368.size := Nat.le_trans Z0 E368.1
  have K0_369 : Keep h0 h368 [] := (Keep.refl h0 []).ext E368
  have O369 : Old Z n0 h368 := X00.ext E368
  have lo_b368 : h0.size ≤ b368 := Nat.le_of_eq g368.symm
  have g_b368 : n0 ≤ b368 := Nat.le_trans Z0 lo_b368
  have l0_b368 : h0.size ≤ b368 := Nat.le_trans (Keep.refl h0 []).1 lo_b368
  have V_b368 : Arv Z h368 b368 k368 .byte (4 : Int32) [.int 0, .int 0, .int 0, .int 0] (.int 0) := (Arv.new A368 (by decide)).pad (pad_rep [] (.int 0) 4)
  have f371 := (V_a1.ext E368)
  -- pc 9: java/lang/StringUTF16.compress
  obtain ⟨_, _, ⟨T370, L370, k370, n370⟩, -, X370, ⟨Lc370, hQ370, l370, y370, z370⟩, st370⟩ := Jvm.LawKit.callS X368 hx (y := y12) hown (mvT hZ (W 42 rfl)) (mvT hZ (W 43 rfl)) (mvT hZ (W 40 rfl)) (mvT hZ (W 44 rfl)) (by decide) (backOf (W := 0) (rmc5L4 l Z a0 G1 fm hG [] a1 b368 ka k368 c0 c1 c2 c3 h368 n0 Z369 O369 f371 V_b368 g_b368 (Nat.ne_of_lt (Nat.lt_of_lt_of_le V_a1.lt lo_b368)) (by first | assumption | decide | rfl) (by first | assumption | decide | rfl) (by first | assumption | decide | rfl) (by first | assumption | decide | rfl)) hZ (W 44 rfl) (W 40 rfl) (by decide) (by decide)) (g := (mkF m 9 #[.val (.ref a1), .val (.int 0), .val (.int 4), .val (.ref b368), .unset, .unset] [.int 4, .int 0, .ref b368, .int 0, .ref a1])) rfl (by rw [hml]; rfl) (argsL := [.ref a1, .int 0, .ref b368, .int 0, .int 4]) (rest := []) (lenOf pd___CI_BII_I rfl) rfl (by show 2 * 0 + _ ≤ _; exact Nat.le_of_eq rfl) (hB d16_9) (fun _ _ => ⟨rfl, e368, (by decide : 1 + 0 ≤ _), (by decide : 4 + 0 ≤ _)⟩)
  dsimp only [Pt.U, Pt.locs, Pt.cells, Pt.slots] at X370 l370 y370 z370 st370 hQ370
  subst l370 y370 z370
  obtain ⟨rfl, N370q, K370, f370_0⟩ := hQ370
  have N370 := Fr.app N0 N370q
  have Z372 : n0 ≤ T370.heap.size := Nat.le_trans Z369 K370.1
  have K0_372 : Keep h0 T370.heap [] := K0_369.trans K370 (allS (Or.inr l0_b368) all0)
  have O372 : Old Z n0 T370.heap := O369.keep K370 (allS g_b368 all0)
  obtain ⟨fs, hr, hrun, hended, hW, hsame⟩ := X370.leave (v := some (.ref b368)) (fun h => by rw [Bd.returns] at h; cases h)
  refine ⟨_, _, castTop (ef_jdk_52_method_16_code_RII m a1 (0 : Int32) (4 : Int32)) ?_, hrun, hended, _, _, rfl, ?_, ⟨_, rfl⟩, hW, hsame.mono (own_ble rfl) (own_ble rfl)⟩
  · show Steps _ _ _ (s₁.setTop (mkF m 0 #[.val (.ref a1), .val (.int 0), .val (.int 4), .unset, .unset, .unset] [])) _
    refine XS.iloadN X0.here hx rfl (hB d16_0) rfl ?_
    refine st368 _ ?_
    show Steps _ _ _ (T368.setTop (mkF m 3 #[.val (.ref a1), .val (.int 0), .val (.int 4), .unset, .unset, .unset] [.ref b368])) _
    refine XS.astoreN X368.here hx rfl (hB d16_3) rfl rfl (l' := #[.val (.ref a1), .val (.int 0), .val (.int 4), .val (.ref b368), .unset, .unset]) rfl ?_
    refine XS.aloadN X368.here hx rfl (hB d16_4) rfl rfl ?_
    refine XS.iloadN X368.here hx rfl (hB d16_5) rfl ?_
    refine XS.aloadN X368.here hx rfl (hB d16_6) rfl rfl ?_
    refine XS.iconst X368.here hx rfl (hB d16_7) ?_
    refine XS.iloadN X368.here hx rfl (hB d16_8) rfl ?_
    refine st370 _ ?_
    show Steps _ _ _ (T370.setTop (mkF m 12 #[.val (.ref a1), .val (.int 0), .val (.int 4), .val (.ref b368), .unset, .unset] [.int 4])) _
    refine XS.istore X370.here hx rfl (hB d16_12) rfl (l' := #[.val (.ref a1), .val (.int 0), .val (.int 4), .val (.ref b368), .val (.int 4), .unset]) rfl ?_
    refine XS.iload X370.here hx rfl (hB d16_14) rfl ?_
    refine XS.iloadN X370.here hx rfl (hB d16_16) rfl ?_
    refine XS.icmpYes X370.here hx rfl (pc0 := 17) (pc' := 57) rfl (hB d16_17) rfl (teq (by decide : (4 : Int32) = (4 : Int32))).1 (by decide) (by decide) ?_
    refine XS.aloadN X370.here hx rfl (hB d16_57) rfl rfl ?_
    exact retOut X370 hx Bd.returns rfl (Or.inr (Or.inr (Or.inr (Or.inr ⟨rfl, rfl, rfl⟩)))) (hB d16_58) hr
  · show Qc3L4 Z G1 fm a1 ka c0 c1 c2 c3 h0 n0 _ T370.heap _
    exact ⟨b368, k368, rfl, N370, K0_372, l0_b368, f370_0⟩
def Qc3W4 (Z : State) (G1 : Int32) (fm : Value) (a1 : Addr) (ka : ClassId) (c0 : Int32) (c1 : Int32) (c2 : Int32) (c3 : Int32) (h0 : Heap) (n0 : Nat) (v : Option Value) (h : Heap) (L : List Loc) : Prop := ∃ b : Addr, ∃ kb : ClassId, v = some (.ref b) ∧ Fr n0 L ∧ Keep h0 h [] ∧ h0.size ≤ b ∧ Arv Z h b kb .byte (8 : Int32) [(.int (((c0 >>> ((0 : Int32) &&& 31)).toInt8.toInt32).toInt8.toInt32)), (.int (((c0 >>> ((8 : Int32) &&& 31)).toInt8.toInt32).toInt8.toInt32)), (.int (((c1 >>> ((0 : Int32) &&& 31)).toInt8.toInt32).toInt8.toInt32)), (.int (((c1 >>> ((8 : Int32) &&& 31)).toInt8.toInt32).toInt8.toInt32)), (.int (((c2 >>> ((0 : Int32) &&& 31)).toInt8.toInt32).toInt8.toInt32)), (.int (((c2 >>> ((8 : Int32) &&& 31)).toInt8.toInt32).toInt8.toInt32)), (.int (((c3 >>> ((0 : Int32) &&& 31)).toInt8.toInt32).toInt8.toInt32)), (.int (((c3 >>> ((8 : Int32) &&& 31)).toInt8.toInt32).toInt8.toInt32))] (.int 0)
theorem rmc3W4 (l : Launch) (Z : State) (a0 : Array Value) (G1 : Int32) (fm : Value) (hG : Glob Z a0 G1 fm) (ws : List Jvm.Cond) (a1 : Addr) (ka : ClassId) (c0 : Int32) (c1 : Int32) (c2 : Int32) (c3 : Int32) (h0 : Heap) (n0 : Nat) (Z0 : n0 ≤ h0.size) (X00 : Old Z n0 h0) (V_a1 : Arv Z h0 a1 ka .char (4 : Int32) [.int c0, .int c1, .int c2, .int c3] (.int 0)) (hwid : ¬ (¬ ((255 : Int32) < c0) ∧ ¬ ((255 : Int32) < c1) ∧ ¬ ((255 : Int32) < c2) ∧ ¬ ((255 : Int32) < c3))) (hu : ∀ c ∈ ([c0, c1, c2, c3] : List Int32), own_u16 c) :
    Met l Z h0 y16 jdk_52_method_16_code 6 (some (.array .byte)) ws (Room.mk 3 2 12 40) #[.ref a1, .int 0, .int 4] (Qc3W4 Z G1 fm a1 ka c0 c1 c2 c3 h0 n0) := by
  obtain ⟨hw, O_cs, P_cs, O_as, O_hi, O_lo, O_fm, R_fm⟩ := id hG
  have W := @own_W _ _ hw
  refine own_go "java/lang/StringUTF16" rfl (plainFor_of_name pn_java_lang_StringUTF16) ?_
  intro p e s m below meth c s₁ Bd hx hby hml hown hnm X0 e0 hZ
  have hB := @hb _ _ hby
  have N0 := Fr.nil n0
  obtain ⟨T373, h373, k373, X373, e373, E373, A373, Q373, st373⟩ := newPE X0 hx hZ (W 16 rfl) e0 (g := (mkF m 1 #[.val (.ref a1), .val (.int 0), .val (.int 4), .unset, .unset, .unset] [.int 4])) rfl (hB d16_1) rfl (by decide) (cap := 4) (by decide) (by decide) (by decide) (by decide) (ad := "[B") rfl
  obtain ⟨b373, g373⟩ : ∃ z, z = h0.size := ⟨_, rfl⟩
  rw [← g373] at A373 Q373 st373
  have Z374 : n0 ≤ h373.size := Nat.le_trans Z0 E373.1
  have K0_374 : Keep h0 h373 [] := (Keep.refl h0 []).ext E373
  have O374 : Old Z n0 h373 := X00.ext E373
  have lo_b373 : h0.size ≤ b373 := Nat.le_of_eq g373.symm
  have g_b373 : n0 ≤ b373 := Nat.le_trans Z0 lo_b373
  have l0_b373 : h0.size ≤ b373 := Nat.le_trans (Keep.refl h0 []).1 lo_b373
  have V_b373 : Arv Z h373 b373 k373 .byte (4 : Int32) [.int 0, .int 0, .int 0, .int 0] (.int 0) := (Arv.new A373 (by decide)).pad (pad_rep [] (.int 0) 4)
  have f376 := (V_a1.ext E373)
  -- pc 9: java/lang/StringUTF16.compress
  obtain ⟨_, _, ⟨T375, L375, k375, n375⟩, -, X375, ⟨Lc375, hQ375, l375, y375, z375⟩, st375⟩ := Jvm.LawKit.callS X373 hx (y := y12) hown (mvT hZ (W 42 rfl)) (mvT hZ (W 43 rfl)) (mvT hZ (W 40 rfl)) (mvT hZ (W 44 rfl)) (by decide) (backOf (W := 0) (rmc5W4 l Z a0 G1 fm hG [] a1 b373 ka k373 c0 c1 c2 c3 h373 n0 Z374 O374 f376 V_b373 g_b373 (Nat.ne_of_lt (Nat.lt_of_lt_of_le V_a1.lt lo_b373)) (by first | assumption | decide | rfl)) hZ (W 44 rfl) (W 40 rfl) (by decide) (by decide)) (g := (mkF m 9 #[.val (.ref a1), .val (.int 0), .val (.int 4), .val (.ref b373), .unset, .unset] [.int 4, .int 0, .ref b373, .int 0, .ref a1])) rfl (by rw [hml]; rfl) (argsL := [.ref a1, .int 0, .ref b373, .int 0, .int 4]) (rest := []) (lenOf pd___CI_BII_I rfl) rfl (by show 2 * 0 + _ ≤ _; exact Nat.le_of_eq rfl) (hB d16_9) (fun _ _ => ⟨rfl, e373, (by decide : 1 + 0 ≤ _), (by decide : 4 + 0 ≤ _)⟩)
  dsimp only [Pt.U, Pt.locs, Pt.cells, Pt.slots] at X375 l375 y375 z375 st375 hQ375
  subst l375 y375 z375
  obtain ⟨j_375, rfl, N375q, K375, f375_0⟩ := hQ375
  have N375 := Fr.app N0 N375q
  have Z377 : n0 ≤ T375.heap.size := Nat.le_trans Z374 K375.1
  have K0_377 : Keep h0 T375.heap [] := K0_374.trans K375 (allS (Or.inr l0_b373) all0)
  have O377 : Old Z n0 T375.heap := O374.keep K375 (allS g_b373 all0)
  have f379 := (f376.keep K375 (ninS (Nat.ne_of_lt (Nat.lt_of_lt_of_le V_a1.lt lo_b373)) nin0))
  -- pc 23: java/lang/StringUTF16.toBytes
  obtain ⟨_, _, ⟨T378, L378, k378, n378⟩, -, X378, ⟨Lc378, hQ378, l378, y378, z378⟩, st378⟩ := Jvm.LawKit.callS X375 hx (y := y15) hown (mvT hZ (W 84 rfl)) (mvT hZ (W 85 rfl)) (mvT hZ (W 40 rfl)) (mvT hZ (W 86 rfl)) (by decide) (backOf (W := 0) (rmtob4 l Z a0 G1 fm hG [] a1 ka c0 c1 c2 c3 T375.heap n0 Z377 O377 f379) hZ (W 86 rfl) (W 40 rfl) (by decide) (by decide)) (g := (mkF m 23 #[.val (.ref a1), .val (.int 0), .val (.int 4), .val (.ref b373), .val (.int j_375), .unset] [.int 4, .int 0, .ref a1])) rfl (by rw [hml]; rfl) (argsL := [.ref a1, .int 0, .int 4]) (rest := []) (lenOf pd___CII__B rfl) rfl (by show 2 * 0 + _ ≤ _; exact Nat.le_of_eq rfl) (hB d16_23) (fun _ _ => ⟨rfl, rfl, (by decide : 1 + 1 ≤ _), (by decide : 4 + 8 ≤ _)⟩)
  dsimp only [Pt.U, Pt.locs, Pt.cells, Pt.slots] at X378 l378 y378 z378 st378 hQ378
  subst l378 y378 z378
  obtain ⟨b_378, kb_378, rfl, N378q, K378, f378_0, f378_1⟩ := hQ378
  have N378 := Fr.app N375 N378q
  have Z380 : n0 ≤ T378.heap.size := Nat.le_trans Z377 K378.1
  have K0_380 : Keep h0 T378.heap [] := K0_377.trans K378 all0
  have O380 : Old Z n0 T378.heap := O377.keep K378 all0
  have lo_b_378 : T375.heap.size ≤ b_378 := f378_0
  have g_b_378 : n0 ≤ b_378 := Nat.le_trans Z377 lo_b_378
  have l0_b_378 : h0.size ≤ b_378 := Nat.le_trans K0_377.1 lo_b_378
  obtain ⟨K_, c_, hi_, hg_, hw_⟩ := id f375_0
  -- pc 32: java/lang/StringUTF16.getChar
  obtain ⟨_, _, ⟨T381, L381, k381, n381⟩, -, X381, ⟨Lc381, hQ381, l381, y381, z381⟩, st381⟩ := Jvm.LawKit.callS X378 hx (y := y0) hown (mvT hZ (W 100 rfl)) (mvT hZ (W 101 rfl)) (mvT hZ (W 40 rfl)) (mvT hZ (W 102 rfl)) (by decide) (backOf (W := 0) (rmgch l Z a0 G1 fm hG [] b_378 kb_378 (8 : Int32) ([(.int (((c0 >>> ((0 : Int32) &&& 31)).toInt8.toInt32).toInt8.toInt32)), (.int (((c0 >>> ((8 : Int32) &&& 31)).toInt8.toInt32).toInt8.toInt32)), (.int (((c1 >>> ((0 : Int32) &&& 31)).toInt8.toInt32).toInt8.toInt32)), (.int (((c1 >>> ((8 : Int32) &&& 31)).toInt8.toInt32).toInt8.toInt32)), (.int (((c2 >>> ((0 : Int32) &&& 31)).toInt8.toInt32).toInt8.toInt32)), (.int (((c2 >>> ((8 : Int32) &&& 31)).toInt8.toInt32).toInt8.toInt32)), (.int (((c3 >>> ((0 : Int32) &&& 31)).toInt8.toInt32).toInt8.toInt32)), (.int (((c3 >>> ((8 : Int32) &&& 31)).toInt8.toInt32).toInt8.toInt32))] : List Value) j_375 ([c0, c1, c2, c3] : List Int32) K_ c_ T378.heap n0 Z380 O380 f378_1 rfl rfl (own_ble rfl) hu hi_ hg_) hZ (W 102 rfl) (W 40 rfl) (by decide) (by decide)) (g := (mkF m 32 #[.val (.ref a1), .val (.int 0), .val (.int 4), .val (.ref b373), .val (.int j_375), .val (.ref b_378)] [.int j_375, .ref b_378])) rfl (by rw [hml]; rfl) (argsL := [.ref b_378, .int j_375]) (rest := []) (lenOf pd___BI_C rfl) rfl (by show 2 * 0 + _ ≤ _; exact Nat.le_of_eq rfl) (hB d16_32) (fun _ _ => ⟨rfl, rfl, (by decide : 2 + 0 ≤ _), (by decide : 12 + 0 ≤ _)⟩)
  dsimp only [Pt.U, Pt.locs, Pt.cells, Pt.slots] at X381 l381 y381 z381 st381 hQ381
  subst l381 y381 z381
  obtain ⟨rfl, N381q, eq381⟩ := hQ381
  have N381 := Fr.app N378 N381q
  obtain ⟨fs, hr, hrun, hended, hW, hsame⟩ := X381.leave (v := some (.ref b_378)) (fun h => by rw [Bd.returns] at h; cases h)
  refine ⟨_, _, castTop (ef_jdk_52_method_16_code_RII m a1 (0 : Int32) (4 : Int32)) ?_, hrun, hended, _, _, rfl, ?_, ⟨_, rfl⟩, hW, hsame.mono (own_ble rfl) (own_ble rfl)⟩
  · show Steps _ _ _ (s₁.setTop (mkF m 0 #[.val (.ref a1), .val (.int 0), .val (.int 4), .unset, .unset, .unset] [])) _
    refine XS.iloadN X0.here hx rfl (hB d16_0) rfl ?_
    refine st373 _ ?_
    show Steps _ _ _ (T373.setTop (mkF m 3 #[.val (.ref a1), .val (.int 0), .val (.int 4), .unset, .unset, .unset] [.ref b373])) _
    refine XS.astoreN X373.here hx rfl (hB d16_3) rfl rfl (l' := #[.val (.ref a1), .val (.int 0), .val (.int 4), .val (.ref b373), .unset, .unset]) rfl ?_
    refine XS.aloadN X373.here hx rfl (hB d16_4) rfl rfl ?_
    refine XS.iloadN X373.here hx rfl (hB d16_5) rfl ?_
    refine XS.aloadN X373.here hx rfl (hB d16_6) rfl rfl ?_
    refine XS.iconst X373.here hx rfl (hB d16_7) ?_
    refine XS.iloadN X373.here hx rfl (hB d16_8) rfl ?_
    refine st375 _ ?_
    show Steps _ _ _ (T375.setTop (mkF m 12 #[.val (.ref a1), .val (.int 0), .val (.int 4), .val (.ref b373), .unset, .unset] [.int j_375])) _
    refine XS.istore X375.here hx rfl (hB d16_12) rfl (l' := #[.val (.ref a1), .val (.int 0), .val (.int 4), .val (.ref b373), .val (.int j_375), .unset]) rfl ?_
    refine XS.iload X375.here hx rfl (hB d16_14) rfl ?_
    refine XS.iloadN X375.here hx rfl (hB d16_16) rfl ?_
    refine XS.icmpNo X375.here hx rfl (hB d16_17) rfl (feq (own_fne (cs := [c0, c1, c2, c3]) (own_ble rfl) f375_0 : ¬ (j_375 = (4 : Int32)))).1 ?_
    refine XS.aloadN X375.here hx rfl (hB d16_20) rfl rfl ?_
    refine XS.iloadN X375.here hx rfl (hB d16_21) rfl ?_
    refine XS.iloadN X375.here hx rfl (hB d16_22) rfl ?_
    refine st378 _ ?_
    show Steps _ _ _ (T378.setTop (mkF m 26 #[.val (.ref a1), .val (.int 0), .val (.int 4), .val (.ref b373), .val (.int j_375), .unset] [.ref b_378])) _
    refine XS.astore X378.here hx rfl (hB d16_26) rfl rfl (l' := #[.val (.ref a1), .val (.int 0), .val (.int 4), .val (.ref b373), .val (.int j_375), .val (.ref b_378)]) rfl ?_
    refine XS.aload X378.here hx rfl (hB d16_28) rfl rfl ?_
    refine XS.iload X378.here hx rfl (hB d16_30) rfl ?_
    refine st381 _ ?_
    show Steps _ _ _ (T381.setTop (mkF m 35 #[.val (.ref a1), .val (.int 0), .val (.int 4), .val (.ref b373), .val (.int j_375), .val (.ref b_378)] [.int c_])) _
    refine XS.sipush X381.here hx rfl (hB d16_35) ?_
    refine XS.icmpYes X381.here hx rfl (pc0 := 38) (pc' := 54) rfl (hB d16_38) rfl (tlt (hw_ : (255 : Int32) < c_)).2.2.1 (by decide) (by decide) ?_
    refine XS.aload X381.here hx rfl (hB d16_54) rfl rfl ?_
    exact retOut X381 hx Bd.returns rfl (Or.inr (Or.inr (Or.inr (Or.inr ⟨rfl, rfl, rfl⟩)))) (hB d16_56) hr
  · show Qc3W4 Z G1 fm a1 ka c0 c1 c2 c3 h0 n0 _ T381.heap _
    rw [eq381]
    exact ⟨b_378, kb_378, rfl, N381, K0_380, l0_b_378, f378_1⟩
def QcfaL4 (Z : State) (G1 : Int32) (fm : Value) (b : Addr) (kb : ClassId) (vs : List Value) (h0 : Heap) (n0 : Nat) (v : Option Value) (h : Heap) (L : List Loc) : Prop := v = some (.int 0) ∧ Fr n0 L ∧ h = h0
theorem rmcfaL4 (l : Launch) (Z : State) (a0 : Array Value) (G1 : Int32) (fm : Value) (hG : Glob Z a0 G1 fm) (ws : List Jvm.Cond) (b : Addr) (kb : ClassId) (vs : List Value) (h0 : Heap) (n0 : Nat) (Z0 : n0 ≤ h0.size) (X00 : Old Z n0 h0) (V_b : Arv Z h0 b kb .byte (4 : Int32) vs (.int 0)) :
    Met l Z h0 y17 jdk_52_method_15_code 2 (some .byte) ws (Room.mk 0 0 0 0) #[.ref b, .int 4] (QcfaL4 Z G1 fm b kb vs h0 n0) := by
  obtain ⟨hw, O_cs, P_cs, O_as, O_hi, O_lo, O_fm, R_fm⟩ := id hG
  have W := @own_W _ _ hw
  refine own_go "java/lang/StringUTF16" rfl (plainFor_of_name pn_java_lang_StringUTF16) ?_
  intro p e s m below meth c s₁ Bd hx hby hml hown hnm X0 e0 hZ
  have hB := @hb _ _ hby
  have N0 := Fr.nil n0
  obtain ⟨clq382, Arq382, qaq382, Sq382, Nq382, Hq382, Gq382⟩ := id V_b
  obtain ⟨fs, hr, hrun, hended, hW, hsame⟩ := X0.leave (v := some (.int 0)) (fun h => by rw [Bd.returns] at h; cases h)
  refine ⟨_, _, castTop (ef_jdk_52_method_15_code_RI m b (4 : Int32)) ?_, hrun, hended, _, _, rfl, ?_, ⟨_, rfl⟩, hW, hsame.mono (own_ble rfl) (own_ble rfl)⟩
  · show Steps _ _ _ (s₁.setTop (mkF m 0 #[.val (.ref b), .val (.int 4)] [])) _
    refine XS.iloadN X0.here hx rfl (hB d17_0) rfl ?_
    refine XS.aloadN X0.here hx rfl (hB d17_1) rfl rfl ?_
    refine X0.arraylength hx (own_cell e0 Arq382.1) (State.isArrayOf_alike hZ.alike Arq382.2.1) (g := (mkF m 2 #[.val (.ref b), .val (.int 4)] [.ref b, .int 4])) rfl rfl (hB d17_2) _ ?_
    rw [len_of Sq382 Nq382]
    refine XS.isub X0.here hx rfl (hB d17_3) rfl ?_
    refine XS.bipush X0.here hx rfl (hB d17_4) ?_
    refine XS.iushr X0.here hx rfl (hB d17_6) rfl ?_
    refine XS.i2b X0.here hx rfl (hB d17_7) rfl ?_
    exact retN X0 hx (t := .byte) Bd.returns (by simp) (hB d17_8) hr
  · show QcfaL4 Z G1 fm b kb vs h0 n0 _ s₁.heap _
    rw [e0]
    exact ⟨rfl, N0, rfl⟩
def QviL4 (Z : State) (G1 : Int32) (fm : Value) (a1 : Addr) (b : Addr) (ka : ClassId) (c0 : Int32) (c1 : Int32) (c2 : Int32) (c3 : Int32) (h0 : Heap) (n0 : Nat) (v : Option Value) (h : Heap) (L : List Loc) : Prop := ∃ t : Addr, ∃ kb : ClassId, v = none ∧ Fr n0 L ∧ Keep h0 h [a1] ∧ Exa Z h a1 "java/lang/String" ∧ Fld Z h a1 "java/lang/String" "coder" "B" (.int 0) ∧ Fld Z h a1 "java/lang/String" "value" "[B" (.ref t) ∧ Arv Z h t kb .byte (4 : Int32) [(.int ((c0.toInt8.toInt32).toInt8.toInt32)), (.int ((c1.toInt8.toInt32).toInt8.toInt32)), (.int ((c2.toInt8.toInt32).toInt8.toInt32)), (.int ((c3.toInt8.toInt32).toInt8.toInt32))] (.int 0)
theorem rmviL4 (l : Launch) (Z : State) (a0 : Array Value) (G1 : Int32) (fm : Value) (hG : Glob Z a0 G1 fm) (ws : List Jvm.Cond) (a1 : Addr) (b : Addr) (ka : ClassId) (c0 : Int32) (c1 : Int32) (c2 : Int32) (c3 : Int32) (h0 : Heap) (n0 : Nat) (Z0 : n0 ≤ h0.size) (X00 : Old Z n0 h0) (E_a1 : Exa Z h0 a1 "java/lang/String") (g_a1 : n0 ≤ a1) (F_value_a1 : Fld Z h0 a1 "java/lang/String" "value" "[B" .null) (F_coder_a1 : Fld Z h0 a1 "java/lang/String" "coder" "B" (.int 0)) (V_b : Arv Z h0 b ka .char (4 : Int32) [.int c0, .int c1, .int c2, .int c3] (.int 0)) (ne_b_a1 : b ≠ a1) (hl0 : ¬ ((255 : Int32) < c0)) (hl1 : ¬ ((255 : Int32) < c1)) (hl2 : ¬ ((255 : Int32) < c2)) (hl3 : ¬ ((255 : Int32) < c3)) :
    Met l Z h0 y18 jdk_42_method_149_code 6 none ws (Room.mk 2 1 4 35) #[.ref a1, .ref b, .int 0, .int 4, .null] (QviL4 Z G1 fm a1 b ka c0 c1 c2 c3 h0 n0) := by
  obtain ⟨hw, O_cs, P_cs, O_as, O_hi, O_lo, O_fm, R_fm⟩ := id hG
  have W := @own_W _ _ hw
  refine own_go "java/lang/String" rfl (plainFor_of_name pn_java_lang_String) ?_
  intro p e s m below meth c s₁ Bd hx hby hml hown hnm X0 e0 hZ
  have hB := @hb _ _ hby
  have N0 := Fr.nil n0
  obtain ⟨T383, X383, e383, st383⟩ := initO X0 hx hZ hown (W 12 rfl) (W 13 rfl) (W 14 rfl) e0 (g := (mkF m 1 #[.val (.ref a1), .val (.ref b), .val (.int 0), .val (.int 4), .val .null, .unset] [.ref a1])) rfl (by rw [hml]; rfl) rfl (hB d18_1) (by decide) (W := 0) (by show 2 * 0 + _ ≤ _; exact Nat.le_of_eq rfl) (by decide)
  obtain ⟨T384, X384, e384, st384⟩ := getS2 X383 hx hZ hown (host := "") (Or.inl (W 37 rfl)) Via.refl e383 (O_cs.ext X00.2) (g := (mkF m 27 #[.val (.ref a1), .val (.ref b), .val (.int 0), .val (.int 4), .val .null, .unset] [])) rfl (hB d18_27)
  -- pc 36: java/lang/StringUTF16.compress
  obtain ⟨_, _, ⟨T385, L385, k385, n385⟩, -, X385, ⟨Lc385, hQ385, l385, y385, z385⟩, st385⟩ := Jvm.LawKit.callS X384 hx (y := y16) hown (mvT hZ (W 38 rfl)) (mvT hZ (W 39 rfl)) (mvT hZ (W 40 rfl)) (mvT hZ (W 41 rfl)) (by decide) (backOf (W := 0) (rmc3L4 l Z a0 G1 fm hG [] b ka c0 c1 c2 c3 h0 n0 Z0 X00 V_b (by first | assumption | decide | rfl) (by first | assumption | decide | rfl) (by first | assumption | decide | rfl) (by first | assumption | decide | rfl)) hZ (W 41 rfl) (W 40 rfl) (by decide) (by decide)) (g := (mkF m 36 #[.val (.ref a1), .val (.ref b), .val (.int 0), .val (.int 4), .val .null, .unset] [.int 4, .int 0, .ref b])) rfl (by rw [hml]; rfl) (argsL := [.ref b, .int 0, .int 4]) (rest := []) (lenOf pd___CII__B rfl) rfl (by show 2 * 0 + _ ≤ _; exact Nat.le_of_eq rfl) (hB d18_36) (fun _ _ => ⟨rfl, e384, (by decide : 0 + 1 ≤ _), (by decide : 0 + 4 ≤ _)⟩)
  dsimp only [Pt.U, Pt.locs, Pt.cells, Pt.slots] at X385 l385 y385 z385 st385 hQ385
  subst l385 y385 z385
  obtain ⟨b_385, kb_385, rfl, N385q, K385, f385_0, f385_1⟩ := hQ385
  have N385 := Fr.app N0 N385q
  have Z386 : n0 ≤ T385.heap.size := Nat.le_trans Z0 K385.1
  have K0_386 : Keep h0 T385.heap [a1] := (Keep.refl h0 [a1]).trans K385 all0
  have O386 : Old Z n0 T385.heap := X00.keep K385 all0
  have lo_b_385 : h0.size ≤ b_385 := f385_0
  have g_b_385 : n0 ≤ b_385 := Nat.le_trans Z0 lo_b_385
  have l0_b_385 : h0.size ≤ b_385 := Nat.le_trans (Keep.refl h0 [a1]).1 lo_b_385
  -- pc 45: java/lang/StringUTF16.coderFromArrayLen
  obtain ⟨_, _, ⟨T387, L387, k387, n387⟩, -, X387, ⟨Lc387, hQ387, l387, y387, z387⟩, st387⟩ := Jvm.LawKit.callS X385 hx (y := y17) hown (mvT hZ (W 45 rfl)) (mvT hZ (W 46 rfl)) (mvT hZ (W 40 rfl)) (mvT hZ (W 47 rfl)) (by decide) (backOf (W := 1) (rmcfaL4 l Z a0 G1 fm hG [] b_385 kb_385 ([(.int ((c0.toInt8.toInt32).toInt8.toInt32)), (.int ((c1.toInt8.toInt32).toInt8.toInt32)), (.int ((c2.toInt8.toInt32).toInt8.toInt32)), (.int ((c3.toInt8.toInt32).toInt8.toInt32))] : List Value) T385.heap n0 Z386 O386 f385_1) hZ (W 47 rfl) (W 40 rfl) (by decide) (by decide)) (g := (mkF m 45 #[.val (.ref a1), .val (.ref b), .val (.int 0), .val (.int 4), .val .null, .val (.ref b_385)] [.int 4, .ref b_385, .ref a1])) rfl (by rw [hml]; rfl) (argsL := [.ref b_385, .int 4]) (rest := [.ref a1]) (lenOf pd___BI_B rfl) rfl (by show 2 * 0 + _ ≤ _; exact Nat.le_of_eq rfl) (hB d18_45) (fun _ _ => ⟨rfl, rfl, (by decide : 1 + 0 ≤ _), (by decide : 4 + 0 ≤ _)⟩)
  dsimp only [Pt.U, Pt.locs, Pt.cells, Pt.slots] at X387 l387 y387 z387 st387 hQ387
  subst l387 y387 z387
  obtain ⟨rfl, N387q, eq387⟩ := hQ387
  have N387 := Fr.app N385 N387q
  have f388 := (E_a1.keep K385)
  have f389 := (F_coder_a1.keep K385 nin0)
  obtain ⟨T390, h390, X390, e390, W390, st390⟩ := putF X387 hx hZ hown (host := "") (Or.inl (W 22 rfl)) Via.refl eq387 f389 f388 (Or.inr ⟨(W 18 rfl), rfl, hnm⟩) (W 3 rfl) (ty := .byte) (by decide) rfl rfl (g := (mkF m 48 #[.val (.ref a1), .val (.ref b), .val (.int 0), .val (.int 4), .val .null, .val (.ref b_385)] [.int 0, .ref a1])) rfl rfl (hB d18_48)
  have Fw390 := f389.same W390
  have Z391 : n0 ≤ h390.size := Nat.le_trans Z386 (Keep.of_wr W390).1
  have K0_391 : Keep h0 h390 [a1] := K0_386.wr W390 (Or.inl (List.mem_of_getElem? (i := 0) rfl))
  have O391 : Old Z n0 h390 := O386.wr W390 g_a1
  have N390 := Fr.snoc X390 N387 g_a1
  have f392 := (f388.wr W390)
  have f393 := ((F_value_a1.keep K385 nin0).other W390 (Or.inr (slot_ne (Or.inr (W 17 rfl)) (Or.inr (W 18 rfl)) (by decide) (t := (.array .byte)) (t' := .byte) (by decide) (by decide))))
  obtain ⟨T394, h394, X394, e394, W394, st394⟩ := putF X390 hx hZ hown (host := "") (Or.inl (W 21 rfl)) Via.refl e390 f393 f392 (Or.inr ⟨(W 17 rfl), rfl, hnm⟩) (W 3 rfl) (ty := (.array .byte)) (by decide) rfl rfl (g := (mkF m 54 #[.val (.ref a1), .val (.ref b), .val (.int 0), .val (.int 4), .val .null, .val (.ref b_385)] [.ref b_385, .ref a1])) rfl rfl (hB d18_54)
  have Fw394 := f393.same W394
  have Z395 : n0 ≤ h394.size := Nat.le_trans Z391 (Keep.of_wr W394).1
  have K0_395 : Keep h0 h394 [a1] := K0_391.wr W394 (Or.inl (List.mem_of_getElem? (i := 0) rfl))
  have O395 : Old Z n0 h394 := O391.wr W394 g_a1
  have N394 := Fr.snoc X394 N390 g_a1
  have f396 := (f392.wr W394)
  have f397 := (Fw390.other W394 (Or.inr (slot_ne (Or.inr (W 18 rfl)) (Or.inr (W 17 rfl)) (by decide) (t := .byte) (t' := (.array .byte)) (by decide) (by decide))))
  have f398 := ((f385_1.other W390 (Ne.symm (Nat.ne_of_lt (Nat.lt_of_lt_of_le E_a1.lt lo_b_385)))).other W394 (Ne.symm (Nat.ne_of_lt (Nat.lt_of_lt_of_le E_a1.lt lo_b_385))))
  obtain ⟨fs, hr, hrun, hended, hW, hsame⟩ := X394.leave (v := none) (fun _ => rfl)
  refine ⟨_, _, castTop (ef_jdk_42_method_149_code_RRIIN m a1 b (0 : Int32) (4 : Int32)) ?_, hrun, hended, _, _, rfl, ?_, ⟨_, rfl⟩, hW, hsame.mono (own_ble rfl) (own_ble rfl)⟩
  · show Steps _ _ _ (s₁.setTop (mkF m 0 #[.val (.ref a1), .val (.ref b), .val (.int 0), .val (.int 4), .val .null, .unset] [])) _
    refine XS.aloadN X0.here hx rfl (hB d18_0) rfl rfl ?_
    refine st383 _ ?_
    show Steps _ _ _ (T383.setTop (mkF m 4 #[.val (.ref a1), .val (.ref b), .val (.int 0), .val (.int 4), .val .null, .unset] [])) _
    refine XS.iloadN X383.here hx rfl (hB d18_4) rfl ?_
    refine XS.ifYes X383.here hx rfl (pc0 := 5) (pc' := 27) rfl (hB d18_5) rfl ((if0 _ _).trans (feq (by decide : ¬ ((4 : Int32) = (0 : Int32)))).2) (by decide) (by decide) ?_
    refine st384 _ ?_
    show Steps _ _ _ (T384.setTop (mkF m 30 #[.val (.ref a1), .val (.ref b), .val (.int 0), .val (.int 4), .val .null, .unset] [.int G1])) _
    refine XS.ifNo X384.here hx rfl (hB d18_30) rfl ((if0 _ _).trans (feq (P_cs : ¬ (G1 = (0 : Int32)))).1) ?_
    refine XS.aloadN X384.here hx rfl (hB d18_33) rfl rfl ?_
    refine XS.iloadN X384.here hx rfl (hB d18_34) rfl ?_
    refine XS.iloadN X384.here hx rfl (hB d18_35) rfl ?_
    refine st385 _ ?_
    show Steps _ _ _ (T385.setTop (mkF m 39 #[.val (.ref a1), .val (.ref b), .val (.int 0), .val (.int 4), .val .null, .unset] [.ref b_385])) _
    refine XS.astore X385.here hx rfl (hB d18_39) rfl rfl (l' := #[.val (.ref a1), .val (.ref b), .val (.int 0), .val (.int 4), .val .null, .val (.ref b_385)]) rfl ?_
    refine XS.aloadN X385.here hx rfl (hB d18_41) rfl rfl ?_
    refine XS.aload X385.here hx rfl (hB d18_42) rfl rfl ?_
    refine XS.iloadN X385.here hx rfl (hB d18_44) rfl ?_
    refine st387 _ ?_
    show Steps _ _ _ (T387.setTop (mkF m 48 #[.val (.ref a1), .val (.ref b), .val (.int 0), .val (.int 4), .val .null, .val (.ref b_385)] [.int 0, .ref a1])) _
    refine st390 _ ?_
    show Steps _ _ _ (T390.setTop (mkF m 51 #[.val (.ref a1), .val (.ref b), .val (.int 0), .val (.int 4), .val .null, .val (.ref b_385)] [])) _
    refine XS.aloadN X390.here hx rfl (hB d18_51) rfl rfl ?_
    refine XS.aload X390.here hx rfl (hB d18_52) rfl rfl ?_
    refine st394 _ ?_
    show Steps _ _ _ (T394.setTop (mkF m 57 #[.val (.ref a1), .val (.ref b), .val (.int 0), .val (.int 4), .val .null, .val (.ref b_385)] [])) _
    exact X394.returnOut hx Bd.returns (hB d18_57) hr
  · show QviL4 Z G1 fm a1 b ka c0 c1 c2 c3 h0 n0 _ T394.heap _
    rw [e394]
    exact ⟨b_385, kb_385, rfl, N394, K0_395, f396, f397, Fw394, f398⟩
def QcfaW4 (Z : State) (G1 : Int32) (fm : Value) (b : Addr) (kb : ClassId) (vs : List Value) (h0 : Heap) (n0 : Nat) (v : Option Value) (h : Heap) (L : List Loc) : Prop := v = some (.int 1) ∧ Fr n0 L ∧ h = h0
theorem rmcfaW4 (l : Launch) (Z : State) (a0 : Array Value) (G1 : Int32) (fm : Value) (hG : Glob Z a0 G1 fm) (ws : List Jvm.Cond) (b : Addr) (kb : ClassId) (vs : List Value) (h0 : Heap) (n0 : Nat) (Z0 : n0 ≤ h0.size) (X00 : Old Z n0 h0) (V_b : Arv Z h0 b kb .byte (8 : Int32) vs (.int 0)) :
    Met l Z h0 y17 jdk_52_method_15_code 2 (some .byte) ws (Room.mk 0 0 0 0) #[.ref b, .int 4] (QcfaW4 Z G1 fm b kb vs h0 n0) := by
  obtain ⟨hw, O_cs, P_cs, O_as, O_hi, O_lo, O_fm, R_fm⟩ := id hG
  have W := @own_W _ _ hw
  refine own_go "java/lang/StringUTF16" rfl (plainFor_of_name pn_java_lang_StringUTF16) ?_
  intro p e s m below meth c s₁ Bd hx hby hml hown hnm X0 e0 hZ
  have hB := @hb _ _ hby
  have N0 := Fr.nil n0
  obtain ⟨clq402, Arq402, qaq402, Sq402, Nq402, Hq402, Gq402⟩ := id V_b
  obtain ⟨fs, hr, hrun, hended, hW, hsame⟩ := X0.leave (v := some (.int 1)) (fun h => by rw [Bd.returns] at h; cases h)
  refine ⟨_, _, castTop (ef_jdk_52_method_15_code_RI m b (4 : Int32)) ?_, hrun, hended, _, _, rfl, ?_, ⟨_, rfl⟩, hW, hsame.mono (own_ble rfl) (own_ble rfl)⟩
  · show Steps _ _ _ (s₁.setTop (mkF m 0 #[.val (.ref b), .val (.int 4)] [])) _
    refine XS.iloadN X0.here hx rfl (hB d17_0) rfl ?_
    refine XS.aloadN X0.here hx rfl (hB d17_1) rfl rfl ?_
    refine X0.arraylength hx (own_cell e0 Arq402.1) (State.isArrayOf_alike hZ.alike Arq402.2.1) (g := (mkF m 2 #[.val (.ref b), .val (.int 4)] [.ref b, .int 4])) rfl rfl (hB d17_2) _ ?_
    rw [len_of Sq402 Nq402]
    refine XS.isub X0.here hx rfl (hB d17_3) rfl ?_
    refine XS.bipush X0.here hx rfl (hB d17_4) ?_
    refine XS.iushr X0.here hx rfl (hB d17_6) rfl ?_
    refine XS.i2b X0.here hx rfl (hB d17_7) rfl ?_
    exact retN X0 hx (t := .byte) Bd.returns (by simp) (hB d17_8) hr
  · show QcfaW4 Z G1 fm b kb vs h0 n0 _ s₁.heap _
    rw [e0]
    exact ⟨rfl, N0, rfl⟩
def QviW4 (Z : State) (G1 : Int32) (fm : Value) (a1 : Addr) (b : Addr) (ka : ClassId) (c0 : Int32) (c1 : Int32) (c2 : Int32) (c3 : Int32) (h0 : Heap) (n0 : Nat) (v : Option Value) (h : Heap) (L : List Loc) : Prop := ∃ t : Addr, ∃ kb : ClassId, v = none ∧ Fr n0 L ∧ Keep h0 h [a1] ∧ Exa Z h a1 "java/lang/String" ∧ Fld Z h a1 "java/lang/String" "coder" "B" (.int 1) ∧ Fld Z h a1 "java/lang/String" "value" "[B" (.ref t) ∧ Arv Z h t kb .byte (8 : Int32) [(.int (((c0 >>> ((0 : Int32) &&& 31)).toInt8.toInt32).toInt8.toInt32)), (.int (((c0 >>> ((8 : Int32) &&& 31)).toInt8.toInt32).toInt8.toInt32)), (.int (((c1 >>> ((0 : Int32) &&& 31)).toInt8.toInt32).toInt8.toInt32)), (.int (((c1 >>> ((8 : Int32) &&& 31)).toInt8.toInt32).toInt8.toInt32)), (.int (((c2 >>> ((0 : Int32) &&& 31)).toInt8.toInt32).toInt8.toInt32)), (.int (((c2 >>> ((8 : Int32) &&& 31)).toInt8.toInt32).toInt8.toInt32)), (.int (((c3 >>> ((0 : Int32) &&& 31)).toInt8.toInt32).toInt8.toInt32)), (.int (((c3 >>> ((8 : Int32) &&& 31)).toInt8.toInt32).toInt8.toInt32))] (.int 0)
theorem rmviW4 (l : Launch) (Z : State) (a0 : Array Value) (G1 : Int32) (fm : Value) (hG : Glob Z a0 G1 fm) (ws : List Jvm.Cond) (a1 : Addr) (b : Addr) (ka : ClassId) (c0 : Int32) (c1 : Int32) (c2 : Int32) (c3 : Int32) (h0 : Heap) (n0 : Nat) (Z0 : n0 ≤ h0.size) (X00 : Old Z n0 h0) (E_a1 : Exa Z h0 a1 "java/lang/String") (g_a1 : n0 ≤ a1) (F_value_a1 : Fld Z h0 a1 "java/lang/String" "value" "[B" .null) (F_coder_a1 : Fld Z h0 a1 "java/lang/String" "coder" "B" (.int 0)) (V_b : Arv Z h0 b ka .char (4 : Int32) [.int c0, .int c1, .int c2, .int c3] (.int 0)) (ne_b_a1 : b ≠ a1) (hwid : ¬ (¬ ((255 : Int32) < c0) ∧ ¬ ((255 : Int32) < c1) ∧ ¬ ((255 : Int32) < c2) ∧ ¬ ((255 : Int32) < c3))) (hu : ∀ c ∈ ([c0, c1, c2, c3] : List Int32), own_u16 c) :
    Met l Z h0 y18 jdk_42_method_149_code 6 none ws (Room.mk 4 2 12 57) #[.ref a1, .ref b, .int 0, .int 4, .null] (QviW4 Z G1 fm a1 b ka c0 c1 c2 c3 h0 n0) := by
  obtain ⟨hw, O_cs, P_cs, O_as, O_hi, O_lo, O_fm, R_fm⟩ := id hG
  have W := @own_W _ _ hw
  refine own_go "java/lang/String" rfl (plainFor_of_name pn_java_lang_String) ?_
  intro p e s m below meth c s₁ Bd hx hby hml hown hnm X0 e0 hZ
  have hB := @hb _ _ hby
  have N0 := Fr.nil n0
  obtain ⟨T403, X403, e403, st403⟩ := initO X0 hx hZ hown (W 12 rfl) (W 13 rfl) (W 14 rfl) e0 (g := (mkF m 1 #[.val (.ref a1), .val (.ref b), .val (.int 0), .val (.int 4), .val .null, .unset] [.ref a1])) rfl (by rw [hml]; rfl) rfl (hB d18_1) (by decide) (W := 0) (by show 2 * 0 + _ ≤ _; exact Nat.le_of_eq rfl) (by decide)
  obtain ⟨T404, X404, e404, st404⟩ := getS2 X403 hx hZ hown (host := "") (Or.inl (W 37 rfl)) Via.refl e403 (O_cs.ext X00.2) (g := (mkF m 27 #[.val (.ref a1), .val (.ref b), .val (.int 0), .val (.int 4), .val .null, .unset] [])) rfl (hB d18_27)
  -- pc 36: java/lang/StringUTF16.compress
  obtain ⟨_, _, ⟨T405, L405, k405, n405⟩, -, X405, ⟨Lc405, hQ405, l405, y405, z405⟩, st405⟩ := Jvm.LawKit.callS X404 hx (y := y16) hown (mvT hZ (W 38 rfl)) (mvT hZ (W 39 rfl)) (mvT hZ (W 40 rfl)) (mvT hZ (W 41 rfl)) (by decide) (backOf (W := 0) (rmc3W4 l Z a0 G1 fm hG [] b ka c0 c1 c2 c3 h0 n0 Z0 X00 V_b (by first | assumption | decide | rfl) (by first | assumption | decide | rfl)) hZ (W 41 rfl) (W 40 rfl) (by decide) (by decide)) (g := (mkF m 36 #[.val (.ref a1), .val (.ref b), .val (.int 0), .val (.int 4), .val .null, .unset] [.int 4, .int 0, .ref b])) rfl (by rw [hml]; rfl) (argsL := [.ref b, .int 0, .int 4]) (rest := []) (lenOf pd___CII__B rfl) rfl (by show 2 * 0 + _ ≤ _; exact Nat.le_of_eq rfl) (hB d18_36) (fun _ _ => ⟨rfl, e404, (by decide : 0 + 2 ≤ _), (by decide : 0 + 12 ≤ _)⟩)
  dsimp only [Pt.U, Pt.locs, Pt.cells, Pt.slots] at X405 l405 y405 z405 st405 hQ405
  subst l405 y405 z405
  obtain ⟨b_405, kb_405, rfl, N405q, K405, f405_0, f405_1⟩ := hQ405
  have N405 := Fr.app N0 N405q
  have Z406 : n0 ≤ T405.heap.size := Nat.le_trans Z0 K405.1
  have K0_406 : Keep h0 T405.heap [a1] := (Keep.refl h0 [a1]).trans K405 all0
  have O406 : Old Z n0 T405.heap := X00.keep K405 all0
  have lo_b_405 : h0.size ≤ b_405 := f405_0
  have g_b_405 : n0 ≤ b_405 := Nat.le_trans Z0 lo_b_405
  have l0_b_405 : h0.size ≤ b_405 := Nat.le_trans (Keep.refl h0 [a1]).1 lo_b_405
  -- pc 45: java/lang/StringUTF16.coderFromArrayLen
  obtain ⟨_, _, ⟨T407, L407, k407, n407⟩, -, X407, ⟨Lc407, hQ407, l407, y407, z407⟩, st407⟩ := Jvm.LawKit.callS X405 hx (y := y17) hown (mvT hZ (W 45 rfl)) (mvT hZ (W 46 rfl)) (mvT hZ (W 40 rfl)) (mvT hZ (W 47 rfl)) (by decide) (backOf (W := 1) (rmcfaW4 l Z a0 G1 fm hG [] b_405 kb_405 ([(.int (((c0 >>> ((0 : Int32) &&& 31)).toInt8.toInt32).toInt8.toInt32)), (.int (((c0 >>> ((8 : Int32) &&& 31)).toInt8.toInt32).toInt8.toInt32)), (.int (((c1 >>> ((0 : Int32) &&& 31)).toInt8.toInt32).toInt8.toInt32)), (.int (((c1 >>> ((8 : Int32) &&& 31)).toInt8.toInt32).toInt8.toInt32)), (.int (((c2 >>> ((0 : Int32) &&& 31)).toInt8.toInt32).toInt8.toInt32)), (.int (((c2 >>> ((8 : Int32) &&& 31)).toInt8.toInt32).toInt8.toInt32)), (.int (((c3 >>> ((0 : Int32) &&& 31)).toInt8.toInt32).toInt8.toInt32)), (.int (((c3 >>> ((8 : Int32) &&& 31)).toInt8.toInt32).toInt8.toInt32))] : List Value) T405.heap n0 Z406 O406 f405_1) hZ (W 47 rfl) (W 40 rfl) (by decide) (by decide)) (g := (mkF m 45 #[.val (.ref a1), .val (.ref b), .val (.int 0), .val (.int 4), .val .null, .val (.ref b_405)] [.int 4, .ref b_405, .ref a1])) rfl (by rw [hml]; rfl) (argsL := [.ref b_405, .int 4]) (rest := [.ref a1]) (lenOf pd___BI_B rfl) rfl (by show 2 * 0 + _ ≤ _; exact Nat.le_of_eq rfl) (hB d18_45) (fun _ _ => ⟨rfl, rfl, (by decide : 2 + 0 ≤ _), (by decide : 12 + 0 ≤ _)⟩)
  dsimp only [Pt.U, Pt.locs, Pt.cells, Pt.slots] at X407 l407 y407 z407 st407 hQ407
  subst l407 y407 z407
  obtain ⟨rfl, N407q, eq407⟩ := hQ407
  have N407 := Fr.app N405 N407q
  have f408 := (E_a1.keep K405)
  have f409 := (F_coder_a1.keep K405 nin0)
  obtain ⟨T410, h410, X410, e410, W410, st410⟩ := putF X407 hx hZ hown (host := "") (Or.inl (W 22 rfl)) Via.refl eq407 f409 f408 (Or.inr ⟨(W 18 rfl), rfl, hnm⟩) (W 3 rfl) (ty := .byte) (by decide) rfl rfl (g := (mkF m 48 #[.val (.ref a1), .val (.ref b), .val (.int 0), .val (.int 4), .val .null, .val (.ref b_405)] [.int 1, .ref a1])) rfl rfl (hB d18_48)
  have Fw410 := f409.same W410
  have Z411 : n0 ≤ h410.size := Nat.le_trans Z406 (Keep.of_wr W410).1
  have K0_411 : Keep h0 h410 [a1] := K0_406.wr W410 (Or.inl (List.mem_of_getElem? (i := 0) rfl))
  have O411 : Old Z n0 h410 := O406.wr W410 g_a1
  have N410 := Fr.snoc X410 N407 g_a1
  have f412 := (f408.wr W410)
  have f413 := ((F_value_a1.keep K405 nin0).other W410 (Or.inr (slot_ne (Or.inr (W 17 rfl)) (Or.inr (W 18 rfl)) (by decide) (t := (.array .byte)) (t' := .byte) (by decide) (by decide))))
  obtain ⟨T414, h414, X414, e414, W414, st414⟩ := putF X410 hx hZ hown (host := "") (Or.inl (W 21 rfl)) Via.refl e410 f413 f412 (Or.inr ⟨(W 17 rfl), rfl, hnm⟩) (W 3 rfl) (ty := (.array .byte)) (by decide) rfl rfl (g := (mkF m 54 #[.val (.ref a1), .val (.ref b), .val (.int 0), .val (.int 4), .val .null, .val (.ref b_405)] [.ref b_405, .ref a1])) rfl rfl (hB d18_54)
  have Fw414 := f413.same W414
  have Z415 : n0 ≤ h414.size := Nat.le_trans Z411 (Keep.of_wr W414).1
  have K0_415 : Keep h0 h414 [a1] := K0_411.wr W414 (Or.inl (List.mem_of_getElem? (i := 0) rfl))
  have O415 : Old Z n0 h414 := O411.wr W414 g_a1
  have N414 := Fr.snoc X414 N410 g_a1
  have f416 := (f412.wr W414)
  have f417 := (Fw410.other W414 (Or.inr (slot_ne (Or.inr (W 18 rfl)) (Or.inr (W 17 rfl)) (by decide) (t := .byte) (t' := (.array .byte)) (by decide) (by decide))))
  have f418 := ((f405_1.other W410 (Ne.symm (Nat.ne_of_lt (Nat.lt_of_lt_of_le E_a1.lt lo_b_405)))).other W414 (Ne.symm (Nat.ne_of_lt (Nat.lt_of_lt_of_le E_a1.lt lo_b_405))))
  obtain ⟨fs, hr, hrun, hended, hW, hsame⟩ := X414.leave (v := none) (fun _ => rfl)
  refine ⟨_, _, castTop (ef_jdk_42_method_149_code_RRIIN m a1 b (0 : Int32) (4 : Int32)) ?_, hrun, hended, _, _, rfl, ?_, ⟨_, rfl⟩, hW, hsame.mono (own_ble rfl) (own_ble rfl)⟩
  · show Steps _ _ _ (s₁.setTop (mkF m 0 #[.val (.ref a1), .val (.ref b), .val (.int 0), .val (.int 4), .val .null, .unset] [])) _
    refine XS.aloadN X0.here hx rfl (hB d18_0) rfl rfl ?_
    refine st403 _ ?_
    show Steps _ _ _ (T403.setTop (mkF m 4 #[.val (.ref a1), .val (.ref b), .val (.int 0), .val (.int 4), .val .null, .unset] [])) _
    refine XS.iloadN X403.here hx rfl (hB d18_4) rfl ?_
    refine XS.ifYes X403.here hx rfl (pc0 := 5) (pc' := 27) rfl (hB d18_5) rfl ((if0 _ _).trans (feq (by decide : ¬ ((4 : Int32) = (0 : Int32)))).2) (by decide) (by decide) ?_
    refine st404 _ ?_
    show Steps _ _ _ (T404.setTop (mkF m 30 #[.val (.ref a1), .val (.ref b), .val (.int 0), .val (.int 4), .val .null, .unset] [.int G1])) _
    refine XS.ifNo X404.here hx rfl (hB d18_30) rfl ((if0 _ _).trans (feq (P_cs : ¬ (G1 = (0 : Int32)))).1) ?_
    refine XS.aloadN X404.here hx rfl (hB d18_33) rfl rfl ?_
    refine XS.iloadN X404.here hx rfl (hB d18_34) rfl ?_
    refine XS.iloadN X404.here hx rfl (hB d18_35) rfl ?_
    refine st405 _ ?_
    show Steps _ _ _ (T405.setTop (mkF m 39 #[.val (.ref a1), .val (.ref b), .val (.int 0), .val (.int 4), .val .null, .unset] [.ref b_405])) _
    refine XS.astore X405.here hx rfl (hB d18_39) rfl rfl (l' := #[.val (.ref a1), .val (.ref b), .val (.int 0), .val (.int 4), .val .null, .val (.ref b_405)]) rfl ?_
    refine XS.aloadN X405.here hx rfl (hB d18_41) rfl rfl ?_
    refine XS.aload X405.here hx rfl (hB d18_42) rfl rfl ?_
    refine XS.iloadN X405.here hx rfl (hB d18_44) rfl ?_
    refine st407 _ ?_
    show Steps _ _ _ (T407.setTop (mkF m 48 #[.val (.ref a1), .val (.ref b), .val (.int 0), .val (.int 4), .val .null, .val (.ref b_405)] [.int 1, .ref a1])) _
    refine st410 _ ?_
    show Steps _ _ _ (T410.setTop (mkF m 51 #[.val (.ref a1), .val (.ref b), .val (.int 0), .val (.int 4), .val .null, .val (.ref b_405)] [])) _
    refine XS.aloadN X410.here hx rfl (hB d18_51) rfl rfl ?_
    refine XS.aload X410.here hx rfl (hB d18_52) rfl rfl ?_
    refine st414 _ ?_
    show Steps _ _ _ (T414.setTop (mkF m 57 #[.val (.ref a1), .val (.ref b), .val (.int 0), .val (.int 4), .val .null, .val (.ref b_405)] [])) _
    exact X414.returnOut hx Bd.returns (hB d18_57) hr
  · show QviW4 Z G1 fm a1 b ka c0 c1 c2 c3 h0 n0 _ T414.heap _
    rw [e414]
    exact ⟨b_405, kb_405, rfl, N414, K0_415, f416, f417, Fw414, f418⟩
theorem own_all4 {P : Int32 → Prop} {c0 : Int32} {c1 : Int32} {c2 : Int32} {c3 : Int32} (h0 : P c0) (h1 : P c1) (h2 : P c2) (h3 : P c3) : ∀ c ∈ ([c0, c1, c2, c3] : List Int32), P c := by
  intro c hc
  simp only [List.mem_cons, List.not_mem_nil, or_false] at hc
  rcases hc with rfl | rfl | rfl | rfl <;> assumption
def Qini4 (Z : State) (G1 : Int32) (fm : Value) (a1 : Addr) (b : Addr) (ka : ClassId) (c0 : Int32) (c1 : Int32) (c2 : Int32) (c3 : Int32) (h0 : Heap) (n0 : Nat) (v : Option Value) (h : Heap) (L : List Loc) : Prop := ∃ t : Addr, ∃ kb : ClassId, ∃ cd : Int32, ∃ z : Int32, ∃ vs : List Value, v = none ∧ Fr n0 L ∧ Keep h0 h [a1] ∧ Exa Z h a1 "java/lang/String" ∧ Fld Z h a1 "java/lang/String" "coder" "B" (.int cd) ∧ Fld Z h a1 "java/lang/String" "value" "[B" (.ref t) ∧ Arv Z h t kb .byte z vs (.int 0) ∧ own_str cd z vs [c0, c1, c2, c3]
theorem rmini4_L (l : Launch) (Z : State) (a0 : Array Value) (G1 : Int32) (fm : Value) (hG : Glob Z a0 G1 fm) (ws : List Jvm.Cond) (a1 : Addr) (b : Addr) (ka : ClassId) (c0 : Int32) (c1 : Int32) (c2 : Int32) (c3 : Int32) (h0 : Heap) (n0 : Nat) (Z0 : n0 ≤ h0.size) (X00 : Old Z n0 h0) (E_a1 : Exa Z h0 a1 "java/lang/String") (g_a1 : n0 ≤ a1) (F_value_a1 : Fld Z h0 a1 "java/lang/String" "value" "[B" .null) (F_coder_a1 : Fld Z h0 a1 "java/lang/String" "coder" "B" (.int 0)) (V_b : Arv Z h0 b ka .char (4 : Int32) [.int c0, .int c1, .int c2, .int c3] (.int 0)) (ne_b_a1 : b ≠ a1) (hl0 : ¬ ((255 : Int32) < c0)) (hl1 : ¬ ((255 : Int32) < c1)) (hl2 : ¬ ((255 : Int32) < c2)) (hl3 : ¬ ((255 : Int32) < c3)) :
    Met l Z h0 y19 jdk_42_method_3_code 2 none ws (Room.mk 5 2 12 74) #[.ref a1, .ref b] (Qini4 Z G1 fm a1 b ka c0 c1 c2 c3 h0 n0) := by
  obtain ⟨hw, O_cs, P_cs, O_as, O_hi, O_lo, O_fm, R_fm⟩ := id hG
  have W := @own_W _ _ hw
  refine own_go "java/lang/String" rfl (plainFor_of_name pn_java_lang_String) ?_
  intro p e s m below meth c s₁ Bd hx hby hml hown hnm X0 e0 hZ
  have hB := @hb _ _ hby
  have N0 := Fr.nil n0
  obtain ⟨clq399, Arq399, qaq399, Sq399, Nq399, Hq399, Gq399⟩ := id V_b
  -- pc 6: java/lang/String.<init>
  obtain ⟨_, _, ⟨T400, L400, k400, n400⟩, -, X400, ⟨Lc400, hQ400, l400, y400, z400⟩, st400⟩ := X0.specialBack hx (y := y18) rfl hown (mvT hZ (W 8 rfl)) (mvT hZ (W 9 rfl)) (mvT hZ (W 11 rfl)) (by decide) (backOf (W := 0) (rmviL4 l Z a0 G1 fm hG [] a1 b ka c0 c1 c2 c3 h0 n0 Z0 X00 E_a1 g_a1 F_value_a1 F_coder_a1 V_b ne_b_a1 (by first | assumption | decide | rfl) (by first | assumption | decide | rfl) (by first | assumption | decide | rfl) (by first | assumption | decide | rfl)) hZ (W 11 rfl) (W 4 rfl) (by decide) (by decide)) (g := (mkF m 6 #[.val (.ref a1), .val (.ref b)] [.null, .int 4, .int 0, .ref b, .ref a1])) rfl (by rw [hml]; rfl) (Steps.refl _) (a := a1) (argsL := [.ref b, .int 0, .int 4, .null]) (rest := []) (lenOf pd___CIILjava_lang_Void__V rfl) rfl (by show 2 * 0 + _ ≤ _; exact Nat.le_of_eq rfl) (hB d19_6) (fun _ _ => ⟨rfl, e0, (by decide : 0 + 1 ≤ _), (by decide : 0 + 4 ≤ _)⟩)
  dsimp only [Pt.U, Pt.locs, Pt.cells, Pt.slots] at X400 l400 y400 z400 st400 hQ400
  subst l400 y400 z400
  obtain ⟨t_400, kb_400, rfl, N400q, K400, f400_0, f400_1, f400_2, f400_3⟩ := hQ400
  have N400 := Fr.app N0 N400q
  have Z401 : n0 ≤ T400.heap.size := Nat.le_trans Z0 K400.1
  have K0_401 : Keep h0 T400.heap [a1] := (Keep.refl h0 [a1]).trans K400 (allS (Or.inl (List.mem_of_getElem? (i := 0) rfl)) all0)
  have O401 : Old Z n0 T400.heap := X00.keep K400 (allS g_a1 all0)
  obtain ⟨fs, hr, hrun, hended, hW, hsame⟩ := X400.leave (v := none) (fun _ => rfl)
  refine ⟨_, _, castTop (ef_jdk_42_method_3_code_RR m a1 b) ?_, hrun, hended, _, _, rfl, ?_, ⟨_, rfl⟩, hW, hsame.mono (own_ble rfl) (own_ble rfl)⟩
  · show Steps _ _ _ (s₁.setTop (mkF m 0 #[.val (.ref a1), .val (.ref b)] [])) _
    refine XS.aloadN X0.here hx rfl (hB d19_0) rfl rfl ?_
    refine XS.aloadN X0.here hx rfl (hB d19_1) rfl rfl ?_
    refine XS.iconst X0.here hx rfl (hB d19_2) ?_
    refine XS.aloadN X0.here hx rfl (hB d19_3) rfl rfl ?_
    refine X0.arraylength hx (own_cell e0 Arq399.1) (State.isArrayOf_alike hZ.alike Arq399.2.1) (g := (mkF m 4 #[.val (.ref a1), .val (.ref b)] [.ref b, .int 0, .ref b, .ref a1])) rfl rfl (hB d19_4) _ ?_
    rw [len_of Sq399 Nq399]
    refine XS.aconstNull X0.here hx rfl (hB d19_5) ?_
    refine st400.trans ?_
    show Steps _ _ _ (T400.setTop (mkF m 9 #[.val (.ref a1), .val (.ref b)] [])) _
    exact X400.returnOut hx Bd.returns (hB d19_9) hr
  · show Qini4 Z G1 fm a1 b ka c0 c1 c2 c3 h0 n0 _ T400.heap _
    exact ⟨t_400, kb_400, (0 : Int32), (4 : Int32), _, rfl, N400, K0_401, f400_0, f400_1, f400_2, f400_3, Or.inl ⟨rfl, rfl, rfl, own_all4 hl0 hl1 hl2 hl3⟩⟩
theorem rmini4_W (l : Launch) (Z : State) (a0 : Array Value) (G1 : Int32) (fm : Value) (hG : Glob Z a0 G1 fm) (ws : List Jvm.Cond) (a1 : Addr) (b : Addr) (ka : ClassId) (c0 : Int32) (c1 : Int32) (c2 : Int32) (c3 : Int32) (h0 : Heap) (n0 : Nat) (Z0 : n0 ≤ h0.size) (X00 : Old Z n0 h0) (E_a1 : Exa Z h0 a1 "java/lang/String") (g_a1 : n0 ≤ a1) (F_value_a1 : Fld Z h0 a1 "java/lang/String" "value" "[B" .null) (F_coder_a1 : Fld Z h0 a1 "java/lang/String" "coder" "B" (.int 0)) (V_b : Arv Z h0 b ka .char (4 : Int32) [.int c0, .int c1, .int c2, .int c3] (.int 0)) (ne_b_a1 : b ≠ a1) (hwid : ¬ (¬ ((255 : Int32) < c0) ∧ ¬ ((255 : Int32) < c1) ∧ ¬ ((255 : Int32) < c2) ∧ ¬ ((255 : Int32) < c3))) (hu : ∀ c ∈ ([c0, c1, c2, c3] : List Int32), own_u16 c) :
    Met l Z h0 y19 jdk_42_method_3_code 2 none ws (Room.mk 5 2 12 74) #[.ref a1, .ref b] (Qini4 Z G1 fm a1 b ka c0 c1 c2 c3 h0 n0) := by
  obtain ⟨hw, O_cs, P_cs, O_as, O_hi, O_lo, O_fm, R_fm⟩ := id hG
  have W := @own_W _ _ hw
  refine own_go "java/lang/String" rfl (plainFor_of_name pn_java_lang_String) ?_
  intro p e s m below meth c s₁ Bd hx hby hml hown hnm X0 e0 hZ
  have hB := @hb _ _ hby
  have N0 := Fr.nil n0
  obtain ⟨clq419, Arq419, qaq419, Sq419, Nq419, Hq419, Gq419⟩ := id V_b
  -- pc 6: java/lang/String.<init>
  obtain ⟨_, _, ⟨T420, L420, k420, n420⟩, -, X420, ⟨Lc420, hQ420, l420, y420, z420⟩, st420⟩ := X0.specialBack hx (y := y18) rfl hown (mvT hZ (W 8 rfl)) (mvT hZ (W 9 rfl)) (mvT hZ (W 11 rfl)) (by decide) (backOf (W := 0) (rmviW4 l Z a0 G1 fm hG [] a1 b ka c0 c1 c2 c3 h0 n0 Z0 X00 E_a1 g_a1 F_value_a1 F_coder_a1 V_b ne_b_a1 (by first | assumption | decide | rfl) (by first | assumption | decide | rfl)) hZ (W 11 rfl) (W 4 rfl) (by decide) (by decide)) (g := (mkF m 6 #[.val (.ref a1), .val (.ref b)] [.null, .int 4, .int 0, .ref b, .ref a1])) rfl (by rw [hml]; rfl) (Steps.refl _) (a := a1) (argsL := [.ref b, .int 0, .int 4, .null]) (rest := []) (lenOf pd___CIILjava_lang_Void__V rfl) rfl (by show 2 * 0 + _ ≤ _; exact Nat.le_of_eq rfl) (hB d19_6) (fun _ _ => ⟨rfl, e0, (by decide : 0 + 2 ≤ _), (by decide : 0 + 12 ≤ _)⟩)
  dsimp only [Pt.U, Pt.locs, Pt.cells, Pt.slots] at X420 l420 y420 z420 st420 hQ420
  subst l420 y420 z420
  obtain ⟨t_420, kb_420, rfl, N420q, K420, f420_0, f420_1, f420_2, f420_3⟩ := hQ420
  have N420 := Fr.app N0 N420q
  have Z421 : n0 ≤ T420.heap.size := Nat.le_trans Z0 K420.1
  have K0_421 : Keep h0 T420.heap [a1] := (Keep.refl h0 [a1]).trans K420 (allS (Or.inl (List.mem_of_getElem? (i := 0) rfl)) all0)
  have O421 : Old Z n0 T420.heap := X00.keep K420 (allS g_a1 all0)
  obtain ⟨fs, hr, hrun, hended, hW, hsame⟩ := X420.leave (v := none) (fun _ => rfl)
  refine ⟨_, _, castTop (ef_jdk_42_method_3_code_RR m a1 b) ?_, hrun, hended, _, _, rfl, ?_, ⟨_, rfl⟩, hW, hsame.mono (own_ble rfl) (own_ble rfl)⟩
  · show Steps _ _ _ (s₁.setTop (mkF m 0 #[.val (.ref a1), .val (.ref b)] [])) _
    refine XS.aloadN X0.here hx rfl (hB d19_0) rfl rfl ?_
    refine XS.aloadN X0.here hx rfl (hB d19_1) rfl rfl ?_
    refine XS.iconst X0.here hx rfl (hB d19_2) ?_
    refine XS.aloadN X0.here hx rfl (hB d19_3) rfl rfl ?_
    refine X0.arraylength hx (own_cell e0 Arq419.1) (State.isArrayOf_alike hZ.alike Arq419.2.1) (g := (mkF m 4 #[.val (.ref a1), .val (.ref b)] [.ref b, .int 0, .ref b, .ref a1])) rfl rfl (hB d19_4) _ ?_
    rw [len_of Sq419 Nq419]
    refine XS.aconstNull X0.here hx rfl (hB d19_5) ?_
    refine st420.trans ?_
    show Steps _ _ _ (T420.setTop (mkF m 9 #[.val (.ref a1), .val (.ref b)] [])) _
    exact X420.returnOut hx Bd.returns (hB d19_9) hr
  · show Qini4 Z G1 fm a1 b ka c0 c1 c2 c3 h0 n0 _ T420.heap _
    exact ⟨t_420, kb_420, (1 : Int32), (8 : Int32), _, rfl, N420, K0_421, f420_0, f420_1, f420_2, f420_3, Or.inr ⟨rfl, rfl, rfl⟩⟩
theorem rmini4 (l : Launch) (Z : State) (a0 : Array Value) (G1 : Int32) (fm : Value) (hG : Glob Z a0 G1 fm) (ws : List Jvm.Cond) (a1 : Addr) (b : Addr) (ka : ClassId) (c0 : Int32) (c1 : Int32) (c2 : Int32) (c3 : Int32) (h0 : Heap) (n0 : Nat) (Z0 : n0 ≤ h0.size) (X00 : Old Z n0 h0) (E_a1 : Exa Z h0 a1 "java/lang/String") (g_a1 : n0 ≤ a1) (F_value_a1 : Fld Z h0 a1 "java/lang/String" "value" "[B" .null) (F_coder_a1 : Fld Z h0 a1 "java/lang/String" "coder" "B" (.int 0)) (V_b : Arv Z h0 b ka .char (4 : Int32) [.int c0, .int c1, .int c2, .int c3] (.int 0)) (ne_b_a1 : b ≠ a1) (hu : ∀ c ∈ ([c0, c1, c2, c3] : List Int32), own_u16 c) :
    Met l Z h0 y19 jdk_42_method_3_code 2 none ws (Room.mk 5 2 12 74) #[.ref a1, .ref b] (Qini4 Z G1 fm a1 b ka c0 c1 c2 c3 h0 n0) := by
  by_cases hwid : (¬ ((255 : Int32) < c0) ∧ ¬ ((255 : Int32) < c1) ∧ ¬ ((255 : Int32) < c2) ∧ ¬ ((255 : Int32) < c3))
  · obtain ⟨hl0, hl1, hl2, hl3⟩ := hwid
    exact rmini4_L l Z a0 G1 fm hG ws a1 b ka c0 c1 c2 c3 h0 n0 Z0 X00 E_a1 g_a1 F_value_a1 F_coder_a1 V_b ne_b_a1 hl0 hl1 hl2 hl3
  · exact rmini4_W l Z a0 G1 fm hG ws a1 b ka c0 c1 c2 c3 h0 n0 Z0 X00 E_a1 g_a1 F_value_a1 F_coder_a1 V_b ne_b_a1 hwid hu
def own_letter (c : Int32) : Int32 := if c < (65 : Int32) then 0 else if (90 : Int32) < c then (if c < (97 : Int32) then 0 else if (122 : Int32) < c then 0 else 1) else 1
def own_digit (c : Int32) : Int32 := if c < (48 : Int32) then 0 else if (57 : Int32) < c then 0 else 1
def own_word (c : Int32) : Int32 := if own_letter c = 0 then (if own_digit c = 0 then (if c = (95 : Int32) then 1 else 0) else 1) else 1
def own_words : List Int32 → Int32
  | [] => 1
  | c :: cs => if own_word c = 0 then 0 else own_words cs
def own_valid : List Int32 → Int32
  | [] => 0
  | c :: cs => if own_letter c = 0 then 0 else own_words cs
theorem own_65 {c : Int32} (h : c < (65 : Int32)) : c < (97 : Int32) := by
  rw [Int32.lt_iff_toInt_lt] at h ⊢
  have e1 : (65 : Int32).toInt = 65 := rfl
  have e2 : (97 : Int32).toInt = 97 := rfl
  omega
theorem own_v0 {c : Int32} {cs : List Int32} (h : own_letter c = 0) : own_valid (c :: cs) = 0 := if_pos h
theorem own_v1 {c : Int32} {cs : List Int32} (h : ¬ own_letter c = 0) : own_valid (c :: cs) = own_words cs := if_neg h
theorem own_w0 {c : Int32} {cs : List Int32} (h : own_word c = 0) : own_words (c :: cs) = 0 := if_pos h
theorem own_w1 {c : Int32} {cs : List Int32} (h : ¬ own_word c = 0) : own_words (c :: cs) = own_words cs := if_neg h
def own_fit (nn : Int32) (cs : List Int32) (c0 c1 c2 c3 : Int32) : Prop := (nn = 0 ∧ cs = []) ∨ (nn = 1 ∧ cs = [c0]) ∨ (nn = 2 ∧ cs = [c0, c1]) ∨ (nn = 3 ∧ cs = [c0, c1, c2]) ∨ (nn = 4 ∧ cs = [c0, c1, c2, c3])
def own_no (c : Int32) : Prop := own_letter c = 0 ∧ own_digit c = 0 ∧ ¬ c = (95 : Int32)
theorem own_wno {c : Int32} (h : own_word c = 0) : own_no c := by
  unfold own_word at h
  by_cases h1 : own_letter c = 0
  · rw [if_pos h1] at h
    by_cases h2 : own_digit c = 0
    · rw [if_pos h2] at h
      by_cases h3 : c = (95 : Int32)
      · rw [if_pos h3] at h
        exact absurd h (by decide)
      · exact ⟨h1, h2, h3⟩
    · rw [if_neg h2] at h
      exact absurd h (by decide)
  · rw [if_neg h1] at h
    exact absurd h (by decide)
theorem d18_8 : decode jdk_42_method_149_code 8 = .ok (.aload_n 0, 1) := by decide +kernel
theorem d18_9 : decode jdk_42_method_149_code 9 = .ok (.ldc 7, 2) := by decide +kernel
theorem d18_11 : decode jdk_42_method_149_code 11 = .ok (.getfield 9, 3) := by decide +kernel
theorem d18_14 : decode jdk_42_method_149_code 14 = .ok (.putfield 9, 3) := by decide +kernel
theorem d18_17 : decode jdk_42_method_149_code 17 = .ok (.aload_n 0, 1) := by decide +kernel
theorem d18_18 : decode jdk_42_method_149_code 18 = .ok (.ldc 7, 2) := by decide +kernel
theorem d18_20 : decode jdk_42_method_149_code 20 = .ok (.getfield 15, 3) := by decide +kernel
theorem d18_23 : decode jdk_42_method_149_code 23 = .ok (.putfield 15, 3) := by decide +kernel
theorem d18_26 : decode jdk_42_method_149_code 26 = .ok (.return_, 1) := by decide +kernel
def Qsvz (Z : State) (G1 : Int32) (fm : Value) (a1 : Addr) (b : Addr) (h0 : Heap) (n0 : Nat) (v : Option Value) (h : Heap) (L : List Loc) : Prop := ∃ t : Addr, ∃ kb : ClassId, v = none ∧ Fr n0 L ∧ Keep h0 h [a1] ∧ Exa Z h a1 "java/lang/String" ∧ Fld Z h a1 "java/lang/String" "coder" "B" (.int 0) ∧ Fld Z h a1 "java/lang/String" "value" "[B" (.ref t) ∧ Arv Z h t kb .byte (0 : Int32) ([]) (.int 0)
theorem rmsvz (l : Launch) (Z : State) (a0 : Array Value) (G1 : Int32) (fm : Value) (hG : Glob Z a0 G1 fm) (ws : List Jvm.Cond) (a1 : Addr) (b : Addr) (h0 : Heap) (n0 : Nat) (Z0 : n0 ≤ h0.size) (X00 : Old Z n0 h0) (E_a1 : Exa Z h0 a1 "java/lang/String") (g_a1 : n0 ≤ a1) (F_value_a1 : Fld Z h0 a1 "java/lang/String" "value" "[B" .null) (F_coder_a1 : Fld Z h0 a1 "java/lang/String" "coder" "B" (.int 0)) :
    MetFree l y18 (head1 (Jvm.Cond.code y18 jdk_42_method_149_code 6 none :: ws) (Room.mk 1 4 8 12)) (fun a U => a = #[.ref a1, .ref b, .int 0, .int 0, .null] ∧ Z.Warmed39 U.vm ∧ U.heap = h0 ∧ CHv Z own_EL U.vm h0) (fun _ _ _ _ _ => True) (fun _ U o U' => ∃ v L, o = .returned v ∧ Qsvz Z G1 fm a1 b h0 n0 v U'.heap L ∧ CHr Z own_EL U.vm U.heap U'.vm U'.heap ∧ ReturnedEndW U o U' L 4 8) := by
  obtain ⟨hw, O_cs, P_cs, O_as, O_hi, O_lo, O_fm, R_fm⟩ := id hG
  have W := @own_W _ _ hw
  refine MetFree.of_bodySF (plainFor_of_name pn_java_lang_String) hisR ?_
  intro p e s m args below meth c s₁ Bd hml0 hP hK
  obtain ⟨rfl, hZ, hh, hCH⟩ := hP
  have hx := Bd.exec
  have hby := Bd.bytes
  have hB := @hb _ _ hby
  have hml : c.maxLocals = 6 := hml0
  have hown : s.vm.findClass "java/lang/String" = some m.cls := findClass_of_methodNamed Bd.named
  have hnm := (name_of_methodNamed Bd.named Bd.method).1
  have X0 : Stand p l e (Room.mk 1 4 8 12) (s.setVm s.vm) m #[.ref a1, .ref b, .int 0, .int 0, .null] below meth c s₁ [] 0 0 := Stand.of_body Bd
  have e0 : s₁.heap = h0 := by rw [← hh, Bd.state]; rfl
  have hS0 : s.Since s.vm h0.size := (State.WarmedH.refl s).since _
  have hk0 : h0.size ≤ h0.size := Nat.le_refl _
  have R0 : CHr Z own_EL s.vm h0 s.vm h0 := CHr.refl hCH
  have hEL := own_ew hw
  have N0 := Fr.nil n0
  have pre0 : ∀ t, Steps p.tables e below (s₁.setTop (mkF m 0 #[.val (.ref a1), .val (.ref b), .val (.int 0), .val (.int 0), .val .null, .unset] [])) t → Steps p.tables e below (s₁.setTop (entryFrame m #[.ref a1, .ref b, .int 0, .int 0, .null] 6)) t := fun t kk_ => castTop (ef_jdk_42_method_149_code_RRIIN m a1 b (0 : Int32) (0 : Int32)) kk_
  have sf0_a1 : Safe Z own_EL s.vm h0 a1 := own_safeS hZ.alike E_a1 F_value_a1
  obtain ⟨T422, X422, e422, st422⟩ := initO X0 hx hZ hown (W 12 rfl) (W 13 rfl) (W 14 rfl) e0 (g := (mkF m 1 #[.val (.ref a1), .val (.ref b), .val (.int 0), .val (.int 0), .val .null, .unset] [.ref a1])) rfl (by rw [hml]; rfl) rfl (hB d18_1) (by decide) (W := 0) (by show 2 * 0 + _ ≤ _; exact Nat.le_of_eq rfl) (by decide)
  obtain ⟨a423, T423, h423, k423, b423, kb423, X423, e423, E423, hS423, hk423, hZ423, hw423, Ea423, Ca423, Va423, Ba423, la423, lb423, hC423, -, hne423, st423⟩ := ldcCH X422 hx hZ hown (W 15 rfl) (own_sa hw) e422 hS0 hk0 hEL (by decide) R0.1 (vs := []) (z := (0 : Int32)) ⟨by decide, by decide +kernel⟩ (by decide) (by decide) (g := (mkF m 9 #[.val (.ref a1), .val (.ref b), .val (.int 0), .val (.int 0), .val .null, .unset] [.ref a1])) rfl (hB d18_9) (n := 0) (by decide) (by decide) (by decide) (by decide)
  have Z424 : n0 ≤ h423.size := Nat.le_trans Z0 E423.1
  have K0_424 : Keep h0 h423 [a1] := (Keep.refl h0 [a1]).ext E423
  have O424 : Old Z n0 h423 := X00.ext E423
  have sf423_a1 : Safe Z own_EL T423.vm h423 a1 := hC423.safe E_a1.lt sf0_a1
  have Rb423 : CHr Z own_EL s.vm h0 T423.vm h423 := R0.trans hC423
  have ns423_a1 := hne423 _ sf423_a1
  obtain ⟨T425, X425, e425, st425⟩ := getF X423 hx hZ423 hw423 (host := "") (Or.inl (W 21 rfl)) Via.refl e423 Va423 (g := (mkF m 11 #[.val (.ref a1), .val (.ref b), .val (.int 0), .val (.int 0), .val .null, .unset] [.ref a423, .ref a1])) rfl rfl (hB d18_11)
  have f426 := (E_a1.ext E423)
  have f427 := (F_value_a1.ext E423)
  obtain ⟨T428, h428, X428, e428, W428, st428⟩ := putF X425 hx hZ423 hw423 (host := "") (Or.inl (W 21 rfl)) Via.refl e425 f427 f426 (Or.inr ⟨(W 17 rfl), rfl, hnm⟩) (W 3 rfl) (ty := (.array .byte)) (by decide) rfl rfl (g := (mkF m 14 #[.val (.ref a1), .val (.ref b), .val (.int 0), .val (.int 0), .val .null, .unset] [.ref b423, .ref a1])) rfl rfl (hB d18_14)
  have Fw428 := f427.same W428
  have Z429 : n0 ≤ h428.size := Nat.le_trans Z424 (Keep.of_wr W428).1
  have K0_429 : Keep h0 h428 [a1] := K0_424.wr W428 (Or.inl (List.mem_of_getElem? (i := 0) rfl))
  have O429 : Old Z n0 h428 := O424.wr W428 g_a1
  have R429 : CHr Z own_EL s.vm h0 T423.vm h428 := Rb423.trans (CHr.wr W428 sf423_a1 Rb423.1)
  have hk429 : k423 ≤ h428.size := Nat.le_trans hk423 (Keep.of_wr W428).1
  have sf429_a1 : Safe Z own_EL T423.vm h428 a1 := Safe.wr W428 sf423_a1 Rb423.1 sf423_a1
  have N428 := Fr.snoc X428 N0 g_a1
  obtain ⟨a430, T430, h430, k430, b430, kb430, X430, e430, E430, hS430, hk430, hZ430, hw430, Ea430, Ca430, Va430, Ba430, la430, lb430, hC430, -, hne430, st430⟩ := ldcCH X428 hx hZ423 hw423 (W 15 rfl) (own_sa hw) e428 hS423 hk429 hEL (by decide) R429.1 (vs := []) (z := (0 : Int32)) ⟨by decide, by decide +kernel⟩ (by decide) (by decide) (g := (mkF m 18 #[.val (.ref a1), .val (.ref b), .val (.int 0), .val (.int 0), .val .null, .unset] [.ref a1])) rfl (hB d18_18) (n := 0) (by decide) (by decide) (by decide) (by decide)
  have Z431 : n0 ≤ h430.size := Nat.le_trans Z429 E430.1
  have K0_431 : Keep h0 h430 [a1] := K0_429.ext E430
  have O431 : Old Z n0 h430 := O429.ext E430
  have f432 := (f426.wr W428)
  have sf430_a1 : Safe Z own_EL T430.vm h430 a1 := hC430.safe f432.lt sf429_a1
  have Rb430 : CHr Z own_EL s.vm h0 T430.vm h430 := R429.trans hC430
  have ns430_a1 := hne430 _ sf430_a1
  obtain ⟨T433, X433, e433, st433⟩ := getF X430 hx hZ430 hw430 (host := "") (Or.inl (W 22 rfl)) Via.refl e430 Ca430 (g := (mkF m 20 #[.val (.ref a1), .val (.ref b), .val (.int 0), .val (.int 0), .val .null, .unset] [.ref a430, .ref a1])) rfl rfl (hB d18_20)
  have f434 := (f432.ext E430)
  have f435 := (((F_coder_a1.ext E423).other W428 (Or.inr (slot_ne (Or.inr (W 18 rfl)) (Or.inr (W 17 rfl)) (by decide) (t := .byte) (t' := (.array .byte)) (by decide) (by decide)))).ext E430)
  obtain ⟨T436, h436, X436, e436, W436, st436⟩ := putF X433 hx hZ430 hw430 (host := "") (Or.inl (W 22 rfl)) Via.refl e433 f435 f434 (Or.inr ⟨(W 18 rfl), rfl, hnm⟩) (W 3 rfl) (ty := .byte) (by decide) rfl rfl (g := (mkF m 23 #[.val (.ref a1), .val (.ref b), .val (.int 0), .val (.int 0), .val .null, .unset] [.int 0, .ref a1])) rfl rfl (hB d18_23)
  have Fw436 := f435.same W436
  have Z437 : n0 ≤ h436.size := Nat.le_trans Z431 (Keep.of_wr W436).1
  have K0_437 : Keep h0 h436 [a1] := K0_431.wr W436 (Or.inl (List.mem_of_getElem? (i := 0) rfl))
  have O437 : Old Z n0 h436 := O431.wr W436 g_a1
  have R437 : CHr Z own_EL s.vm h0 T430.vm h436 := Rb430.trans (CHr.wr W436 sf430_a1 Rb430.1)
  have hk437 : k430 ≤ h436.size := Nat.le_trans hk430 (Keep.of_wr W436).1
  have sf437_a1 : Safe Z own_EL T430.vm h436 a1 := Safe.wr W436 sf430_a1 Rb430.1 sf430_a1
  have N436 := Fr.snoc X436 N428 g_a1
  have f438 := (f434.wr W436)
  have f439 := ((Fw428.ext E430).other W436 (Or.inr (slot_ne (Or.inr (W 17 rfl)) (Or.inr (W 18 rfl)) (by decide) (t := (.array .byte)) (t' := .byte) (by decide) (by decide))))
  have f440 := (((Ba423.other W428 (Ne.symm ns423_a1.2)).ext E430).other W436 (Ne.symm ns423_a1.2))
  obtain ⟨fs, hr, hrun, hended, hend⟩ := Jvm.Stand.leaveW (v := none) X436 hS430 (by rw [e436]; exact hk437) (fun _ => rfl)
  have hFin := R437.trans (CHv.at X436 hZ430 hEL R437.1)
  refine ⟨_, _, pre0 _ ?_, hrun, hended, _, _, rfl, ?_, ?_, own_mono hend (own_ble rfl) (own_ble rfl)⟩
  · show Steps _ _ _ (s₁.setTop (mkF m 0 #[.val (.ref a1), .val (.ref b), .val (.int 0), .val (.int 0), .val .null, .unset] [])) _
    refine XS.aloadN X0.here hx rfl (hB d18_0) rfl rfl ?_
    refine st422 _ ?_
    show Steps _ _ _ (T422.setTop (mkF m 4 #[.val (.ref a1), .val (.ref b), .val (.int 0), .val (.int 0), .val .null, .unset] [])) _
    refine XS.iloadN X422.here hx rfl (hB d18_4) rfl ?_
    refine XS.ifNo X422.here hx rfl (hB d18_5) rfl ((if0 _ _).trans (teq (by decide : (0 : Int32) = (0 : Int32))).2) ?_
    refine XS.aloadN X422.here hx rfl (hB d18_8) rfl rfl ?_
    refine st423 _ ?_
    show Steps _ _ _ (T423.setTop (mkF m 11 #[.val (.ref a1), .val (.ref b), .val (.int 0), .val (.int 0), .val .null, .unset] [.ref a423, .ref a1])) _
    refine st425 _ ?_
    show Steps _ _ _ (T425.setTop (mkF m 14 #[.val (.ref a1), .val (.ref b), .val (.int 0), .val (.int 0), .val .null, .unset] [.ref b423, .ref a1])) _
    refine st428 _ ?_
    show Steps _ _ _ (T428.setTop (mkF m 17 #[.val (.ref a1), .val (.ref b), .val (.int 0), .val (.int 0), .val .null, .unset] [])) _
    refine XS.aloadN X428.here hx rfl (hB d18_17) rfl rfl ?_
    refine st430 _ ?_
    show Steps _ _ _ (T430.setTop (mkF m 20 #[.val (.ref a1), .val (.ref b), .val (.int 0), .val (.int 0), .val .null, .unset] [.ref a430, .ref a1])) _
    refine st433 _ ?_
    show Steps _ _ _ (T433.setTop (mkF m 23 #[.val (.ref a1), .val (.ref b), .val (.int 0), .val (.int 0), .val .null, .unset] [.int 0, .ref a1])) _
    refine st436 _ ?_
    show Steps _ _ _ (T436.setTop (mkF m 26 #[.val (.ref a1), .val (.ref b), .val (.int 0), .val (.int 0), .val .null, .unset] [])) _
    exact X436.returnOut hx Bd.returns (hB d18_26) hr
  · show Qsvz Z G1 fm a1 b h0 n0 _ T436.heap _
    rw [e436]
    exact ⟨b423, kb423, rfl, N436, K0_437, f438, Fw436, f439, f440⟩
  · show CHr Z own_EL s.vm s.heap T436.vm T436.heap
    rw [hh, e436]
    exact hFin
def Qsz (Z : State) (G1 : Int32) (fm : Value) (a1 : Addr) (b : Addr) (kc : ClassId) (h0 : Heap) (n0 : Nat) (v : Option Value) (h : Heap) (L : List Loc) : Prop := ∃ t : Addr, ∃ kb : ClassId, v = none ∧ Fr n0 L ∧ Keep h0 h [a1] ∧ Exa Z h a1 "java/lang/String" ∧ Fld Z h a1 "java/lang/String" "coder" "B" (.int 0) ∧ Fld Z h a1 "java/lang/String" "value" "[B" (.ref t) ∧ Arv Z h t kb .byte (0 : Int32) ([]) (.int 0)
theorem rmsz (l : Launch) (Z : State) (a0 : Array Value) (G1 : Int32) (fm : Value) (hG : Glob Z a0 G1 fm) (ws : List Jvm.Cond) (a1 : Addr) (b : Addr) (kc : ClassId) (h0 : Heap) (n0 : Nat) (Z0 : n0 ≤ h0.size) (X00 : Old Z n0 h0) (E_a1 : Exa Z h0 a1 "java/lang/String") (g_a1 : n0 ≤ a1) (F_value_a1 : Fld Z h0 a1 "java/lang/String" "value" "[B" .null) (F_coder_a1 : Fld Z h0 a1 "java/lang/String" "coder" "B" (.int 0)) (V_b : Arv Z h0 b kc .char (0 : Int32) [] (.int 0)) :
    MetFree l y19 (head1 (Jvm.Cond.code y19 jdk_42_method_3_code 2 none :: ws) (Room.mk 2 4 8 29)) (fun a U => a = #[.ref a1, .ref b] ∧ Z.Warmed39 U.vm ∧ U.heap = h0 ∧ CHv Z own_EL U.vm h0) (fun _ _ _ _ _ => True) (fun _ U o U' => ∃ v L, o = .returned v ∧ Qsz Z G1 fm a1 b kc h0 n0 v U'.heap L ∧ CHr Z own_EL U.vm U.heap U'.vm U'.heap ∧ ReturnedEndW U o U' L 4 8) := by
  obtain ⟨hw, O_cs, P_cs, O_as, O_hi, O_lo, O_fm, R_fm⟩ := id hG
  have W := @own_W _ _ hw
  refine MetFree.of_bodySF (plainFor_of_name pn_java_lang_String) hisR ?_
  intro p e s m args below meth c s₁ Bd hml0 hP hK
  obtain ⟨rfl, hZ, hh, hCH⟩ := hP
  have hx := Bd.exec
  have hby := Bd.bytes
  have hB := @hb _ _ hby
  have hml : c.maxLocals = 2 := hml0
  have hown : s.vm.findClass "java/lang/String" = some m.cls := findClass_of_methodNamed Bd.named
  have hnm := (name_of_methodNamed Bd.named Bd.method).1
  have X0 : Stand p l e (Room.mk 2 4 8 29) (s.setVm s.vm) m #[.ref a1, .ref b] below meth c s₁ [] 0 0 := Stand.of_body Bd
  have e0 : s₁.heap = h0 := by rw [← hh, Bd.state]; rfl
  have hS0 : s.Since s.vm h0.size := (State.WarmedH.refl s).since _
  have hk0 : h0.size ≤ h0.size := Nat.le_refl _
  have R0 : CHr Z own_EL s.vm h0 s.vm h0 := CHr.refl hCH
  have hEL := own_ew hw
  have N0 := Fr.nil n0
  have pre0 : ∀ t, Steps p.tables e below (s₁.setTop (mkF m 0 #[.val (.ref a1), .val (.ref b)] [])) t → Steps p.tables e below (s₁.setTop (entryFrame m #[.ref a1, .ref b] 2)) t := fun t kk_ => castTop (ef_jdk_42_method_3_code_RR m a1 b) kk_
  obtain ⟨clq441, Arq441, qaq441, Sq441, Nq441, Hq441, Gq441⟩ := id V_b
  -- pc 6: java/lang/String.<init>
  obtain ⟨_, _, ⟨T442, L442, k442, n442⟩, -, X442, hS442, hG442, ⟨Lc442, hQ442, l442, y442, z442, hC442⟩, st442⟩ := X0.specialBackS hx (y := y18) rfl hown (mvT hZ (W 8 rfl)) (mvT hZ (W 9 rfl)) (mvT hZ (W 11 rfl)) (by decide) (backOfSH (s := s) (W := 0) (rmsvz l Z a0 G1 fm hG [] a1 b h0 n0 Z0 X00 E_a1 g_a1 F_value_a1 F_coder_a1) hZ (W 11 rfl) (W 4 rfl) (by decide) (by decide) hEL R0.1) (g := (mkF m 6 #[.val (.ref a1), .val (.ref b)] [.null, .int 0, .int 0, .ref b, .ref a1])) rfl (by rw [hml]; rfl) (Steps.refl _) (a := a1) (argsL := [.ref b, .int 0, .int 0, .null]) (rest := []) (lenOf pd___CIILjava_lang_Void__V rfl) rfl (by show 2 * 0 + _ ≤ _; exact Nat.le_of_eq rfl) (hB d19_6) (fun _ _ => ⟨rfl, e0, (by decide : 0 + 4 ≤ _), (by decide : 0 + 8 ≤ _)⟩)
  dsimp only [Pt.U, Pt.locs, Pt.cells, Pt.slots] at X442 l442 y442 z442 st442 hQ442 hS442 hG442 hC442
  subst l442 y442 z442
  have hZ442 : Z.Warmed39 T442.vm := State.Warmed39.trans (t := s.setVm s.vm) hZ hS442.1
  have hw442 : T442.vm.findClass "java/lang/String" = some m.cls := by rw [hS442.1.alike.findClass]; exact hown
  have hSn442 : s.Since T442.vm T442.heap.size := hS0.trans hS442 (Nat.le_trans hk0 (by have q := hG442; rw [e0] at q; exact q))
  have X442 : Stand p l e _ (s.setVm T442.vm) m _ below meth c T442 _ _ _ := X442
  obtain ⟨t_442, kb_442, rfl, N442q, K442, f442_0, f442_1, f442_2, f442_3⟩ := hQ442
  have N442 := Fr.app N0 N442q
  have Z443 : n0 ≤ T442.heap.size := Nat.le_trans Z0 K442.1
  have K0_443 : Keep h0 T442.heap [a1] := (Keep.refl h0 [a1]).trans K442 (allS (Or.inl (List.mem_of_getElem? (i := 0) rfl)) all0)
  have O443 : Old Z n0 T442.heap := X00.keep K442 (allS g_a1 all0)
  have hkw442 : T442.heap.size ≤ T442.heap.size := Nat.le_refl _
  have Rb442 : CHr Z own_EL s.vm h0 T442.vm T442.heap := R0.trans hC442
  obtain ⟨fs, hr, hrun, hended, hend⟩ := Jvm.Stand.leaveW (v := none) X442 hSn442 hkw442 (fun _ => rfl)
  have hFin := Rb442.trans (CHv.at X442 hZ442 hEL Rb442.1)
  refine ⟨_, _, pre0 _ ?_, hrun, hended, _, _, rfl, ?_, ?_, own_mono hend (own_ble rfl) (own_ble rfl)⟩
  · show Steps _ _ _ (s₁.setTop (mkF m 0 #[.val (.ref a1), .val (.ref b)] [])) _
    refine XS.aloadN X0.here hx rfl (hB d19_0) rfl rfl ?_
    refine XS.aloadN X0.here hx rfl (hB d19_1) rfl rfl ?_
    refine XS.iconst X0.here hx rfl (hB d19_2) ?_
    refine XS.aloadN X0.here hx rfl (hB d19_3) rfl rfl ?_
    refine X0.arraylength hx (own_cell e0 Arq441.1) (State.isArrayOf_alike hZ.alike Arq441.2.1) (g := (mkF m 4 #[.val (.ref a1), .val (.ref b)] [.ref b, .int 0, .ref b, .ref a1])) rfl rfl (hB d19_4) _ ?_
    rw [len_of Sq441 Nq441]
    refine XS.aconstNull X0.here hx rfl (hB d19_5) ?_
    refine st442.trans ?_
    show Steps _ _ _ (T442.setTop (mkF m 9 #[.val (.ref a1), .val (.ref b)] [])) _
    exact X442.returnOut hx Bd.returns (hB d19_9) hr
  · show Qsz Z G1 fm a1 b kc h0 n0 _ T442.heap _
    exact ⟨t_442, kb_442, rfl, N442, K0_443, f442_0, f442_1, f442_2, f442_3⟩
  · show CHr Z own_EL s.vm s.heap T442.vm T442.heap
    rw [hh]
    exact hFin
theorem d20_0 : decode prog_27_method_5_code 0 = .ok (.iload_n 0, 1) := by decide +kernel
theorem d20_1 : decode prog_27_method_5_code 1 = .ok (.bipush 65, 2) := by decide +kernel
theorem d20_3 : decode prog_27_method_5_code 3 = .ok (.if_icmp .lt 9, 3) := by decide +kernel
theorem d20_12 : decode prog_27_method_5_code 12 = .ok (.iload_n 0, 1) := by decide +kernel
theorem d20_13 : decode prog_27_method_5_code 13 = .ok (.bipush 97, 2) := by decide +kernel
theorem d20_15 : decode prog_27_method_5_code 15 = .ok (.if_icmp .lt 13, 3) := by decide +kernel
theorem d20_28 : decode prog_27_method_5_code 28 = .ok (.iconst 0, 1) := by decide +kernel
theorem d20_29 : decode prog_27_method_5_code 29 = .ok (.ireturn, 1) := by decide +kernel
theorem d20_6 : decode prog_27_method_5_code 6 = .ok (.iload_n 0, 1) := by decide +kernel
theorem d20_7 : decode prog_27_method_5_code 7 = .ok (.bipush 90, 2) := by decide +kernel
theorem d20_9 : decode prog_27_method_5_code 9 = .ok (.if_icmp .le 15, 3) := by decide +kernel
theorem d20_24 : decode prog_27_method_5_code 24 = .ok (.iconst 1, 1) := by decide +kernel
theorem d20_25 : decode prog_27_method_5_code 25 = .ok (.goto 4, 3) := by decide +kernel
theorem d20_18 : decode prog_27_method_5_code 18 = .ok (.iload_n 0, 1) := by decide +kernel
theorem d20_19 : decode prog_27_method_5_code 19 = .ok (.bipush 122, 2) := by decide +kernel
theorem d20_21 : decode prog_27_method_5_code 21 = .ok (.if_icmp .gt 7, 3) := by decide +kernel
def Qial (Z : State) (G1 : Int32) (fm : Value) (cz : Int32) (h0 : Heap) (n0 : Nat) (v : Option Value) (h : Heap) (L : List Loc) : Prop := v = some (.int (own_letter cz)) ∧ Fr n0 L ∧ h = h0
theorem ef_prog_27_method_5_code_I (m : MethodId) (x0 : Int32) : entryFrame m #[.int x0] 1 = mkF m 0 #[.val (.int x0)] [] := by first | (simp [entryFrame, mkF, argsToLocals, Value.category]; done) | rfl
abbrev y20 : MethodName := ⟨"com/example/label_lattice/labellattice/Names", "isAsciiLetter", "(C)Z"⟩
theorem pn_com_example_label_lattice_labellattice_Names : plainName "com/example/label_lattice/labellattice/Names" = true := by first | (simp [plainName, overriddenIn]; done) | decide +kernel
theorem rmial_A (l : Launch) (Z : State) (a0 : Array Value) (G1 : Int32) (fm : Value) (hG : Glob Z a0 G1 fm) (ws : List Jvm.Cond) (cz : Int32) (h0 : Heap) (n0 : Nat) (Z0 : n0 ≤ h0.size) (X00 : Old Z n0 h0) (h1 : cz < (65 : Int32)) :
    Met l Z h0 y20 prog_27_method_5_code 1 (some .boolean) ws (Room.mk 0 0 0 0) #[.int cz] (Qial Z G1 fm cz h0 n0) := by
  obtain ⟨hw, O_cs, P_cs, O_as, O_hi, O_lo, O_fm, R_fm⟩ := id hG
  have W := @own_W _ _ hw
  refine own_go "com/example/label_lattice/labellattice/Names" rfl (plainFor_of_name pn_com_example_label_lattice_labellattice_Names) ?_
  intro p e s m below meth c s₁ Bd hx hby hml hown hnm X0 e0 hZ
  have hB := @hb _ _ hby
  have N0 := Fr.nil n0
  obtain ⟨fs, hr, hrun, hended, hW, hsame⟩ := X0.leave (v := some (.int 0)) (fun h => by rw [Bd.returns] at h; cases h)
  refine ⟨_, _, castTop (ef_prog_27_method_5_code_I m cz) ?_, hrun, hended, _, _, rfl, ?_, ⟨_, rfl⟩, hW, hsame.mono (own_ble rfl) (own_ble rfl)⟩
  · show Steps _ _ _ (s₁.setTop (mkF m 0 #[.val (.int cz)] [])) _
    refine XS.iloadN X0.here hx rfl (hB d20_0) rfl ?_
    refine XS.bipush X0.here hx rfl (hB d20_1) ?_
    refine XS.icmpYes X0.here hx rfl (pc0 := 3) (pc' := 12) rfl (hB d20_3) rfl (tlt (h1 : cz < (65 : Int32))).1 (by decide) (by decide) ?_
    refine XS.iloadN X0.here hx rfl (hB d20_12) rfl ?_
    refine XS.bipush X0.here hx rfl (hB d20_13) ?_
    refine XS.icmpYes X0.here hx rfl (pc0 := 15) (pc' := 28) rfl (hB d20_15) rfl (tlt (own_65 h1 : cz < (97 : Int32))).1 (by decide) (by decide) ?_
    refine XS.iconst X0.here hx rfl (hB d20_28) ?_
    exact retN X0 hx (t := .boolean) Bd.returns (by simp) (hB d20_29) hr
  · show Qial Z G1 fm cz h0 n0 _ s₁.heap _
    rw [e0]
    exact ⟨(by rw [own_letter, if_pos h1]), N0, rfl⟩
theorem rmial_D (l : Launch) (Z : State) (a0 : Array Value) (G1 : Int32) (fm : Value) (hG : Glob Z a0 G1 fm) (ws : List Jvm.Cond) (cz : Int32) (h0 : Heap) (n0 : Nat) (Z0 : n0 ≤ h0.size) (X00 : Old Z n0 h0) (h1 : ¬ cz < (65 : Int32)) (h2 : ¬ ((90 : Int32) < cz)) :
    Met l Z h0 y20 prog_27_method_5_code 1 (some .boolean) ws (Room.mk 0 0 0 0) #[.int cz] (Qial Z G1 fm cz h0 n0) := by
  obtain ⟨hw, O_cs, P_cs, O_as, O_hi, O_lo, O_fm, R_fm⟩ := id hG
  have W := @own_W _ _ hw
  refine own_go "com/example/label_lattice/labellattice/Names" rfl (plainFor_of_name pn_com_example_label_lattice_labellattice_Names) ?_
  intro p e s m below meth c s₁ Bd hx hby hml hown hnm X0 e0 hZ
  have hB := @hb _ _ hby
  have N0 := Fr.nil n0
  obtain ⟨fs, hr, hrun, hended, hW, hsame⟩ := X0.leave (v := some (.int 1)) (fun h => by rw [Bd.returns] at h; cases h)
  refine ⟨_, _, castTop (ef_prog_27_method_5_code_I m cz) ?_, hrun, hended, _, _, rfl, ?_, ⟨_, rfl⟩, hW, hsame.mono (own_ble rfl) (own_ble rfl)⟩
  · show Steps _ _ _ (s₁.setTop (mkF m 0 #[.val (.int cz)] [])) _
    refine XS.iloadN X0.here hx rfl (hB d20_0) rfl ?_
    refine XS.bipush X0.here hx rfl (hB d20_1) ?_
    refine XS.icmpNo X0.here hx rfl (hB d20_3) rfl (flt (h1 : ¬ (cz < (65 : Int32)))).1 ?_
    refine XS.iloadN X0.here hx rfl (hB d20_6) rfl ?_
    refine XS.bipush X0.here hx rfl (hB d20_7) ?_
    refine XS.icmpYes X0.here hx rfl (pc0 := 9) (pc' := 24) rfl (hB d20_9) rfl (flt (h2 : ¬ ((90 : Int32) < cz))).2.2.2 (by decide) (by decide) ?_
    refine XS.iconst X0.here hx rfl (hB d20_24) ?_
    refine XS.goto X0.here hx rfl (pc0 := 25) (pc' := 29) rfl (hB d20_25) (by decide) (by decide) ?_
    exact retN X0 hx (t := .boolean) Bd.returns (by simp) (hB d20_29) hr
  · show Qial Z G1 fm cz h0 n0 _ s₁.heap _
    rw [e0]
    exact ⟨(by rw [own_letter, if_neg h1, if_neg h2]), N0, rfl⟩
theorem rmial_E (l : Launch) (Z : State) (a0 : Array Value) (G1 : Int32) (fm : Value) (hG : Glob Z a0 G1 fm) (ws : List Jvm.Cond) (cz : Int32) (h0 : Heap) (n0 : Nat) (Z0 : n0 ≤ h0.size) (X00 : Old Z n0 h0) (h1 : ¬ cz < (65 : Int32)) (h2 : (90 : Int32) < cz) (h3 : cz < (97 : Int32)) :
    Met l Z h0 y20 prog_27_method_5_code 1 (some .boolean) ws (Room.mk 0 0 0 0) #[.int cz] (Qial Z G1 fm cz h0 n0) := by
  obtain ⟨hw, O_cs, P_cs, O_as, O_hi, O_lo, O_fm, R_fm⟩ := id hG
  have W := @own_W _ _ hw
  refine own_go "com/example/label_lattice/labellattice/Names" rfl (plainFor_of_name pn_com_example_label_lattice_labellattice_Names) ?_
  intro p e s m below meth c s₁ Bd hx hby hml hown hnm X0 e0 hZ
  have hB := @hb _ _ hby
  have N0 := Fr.nil n0
  obtain ⟨fs, hr, hrun, hended, hW, hsame⟩ := X0.leave (v := some (.int 0)) (fun h => by rw [Bd.returns] at h; cases h)
  refine ⟨_, _, castTop (ef_prog_27_method_5_code_I m cz) ?_, hrun, hended, _, _, rfl, ?_, ⟨_, rfl⟩, hW, hsame.mono (own_ble rfl) (own_ble rfl)⟩
  · show Steps _ _ _ (s₁.setTop (mkF m 0 #[.val (.int cz)] [])) _
    refine XS.iloadN X0.here hx rfl (hB d20_0) rfl ?_
    refine XS.bipush X0.here hx rfl (hB d20_1) ?_
    refine XS.icmpNo X0.here hx rfl (hB d20_3) rfl (flt (h1 : ¬ (cz < (65 : Int32)))).1 ?_
    refine XS.iloadN X0.here hx rfl (hB d20_6) rfl ?_
    refine XS.bipush X0.here hx rfl (hB d20_7) ?_
    refine XS.icmpNo X0.here hx rfl (hB d20_9) rfl (tlt (h2 : (90 : Int32) < cz)).2.2.2 ?_
    refine XS.iloadN X0.here hx rfl (hB d20_12) rfl ?_
    refine XS.bipush X0.here hx rfl (hB d20_13) ?_
    refine XS.icmpYes X0.here hx rfl (pc0 := 15) (pc' := 28) rfl (hB d20_15) rfl (tlt (h3 : cz < (97 : Int32))).1 (by decide) (by decide) ?_
    refine XS.iconst X0.here hx rfl (hB d20_28) ?_
    exact retN X0 hx (t := .boolean) Bd.returns (by simp) (hB d20_29) hr
  · show Qial Z G1 fm cz h0 n0 _ s₁.heap _
    rw [e0]
    exact ⟨(by rw [own_letter, if_neg h1, if_pos h2, if_pos h3]), N0, rfl⟩
theorem rmial_F (l : Launch) (Z : State) (a0 : Array Value) (G1 : Int32) (fm : Value) (hG : Glob Z a0 G1 fm) (ws : List Jvm.Cond) (cz : Int32) (h0 : Heap) (n0 : Nat) (Z0 : n0 ≤ h0.size) (X00 : Old Z n0 h0) (h1 : ¬ cz < (65 : Int32)) (h2 : (90 : Int32) < cz) (h3 : ¬ cz < (97 : Int32)) (h4 : (122 : Int32) < cz) :
    Met l Z h0 y20 prog_27_method_5_code 1 (some .boolean) ws (Room.mk 0 0 0 0) #[.int cz] (Qial Z G1 fm cz h0 n0) := by
  obtain ⟨hw, O_cs, P_cs, O_as, O_hi, O_lo, O_fm, R_fm⟩ := id hG
  have W := @own_W _ _ hw
  refine own_go "com/example/label_lattice/labellattice/Names" rfl (plainFor_of_name pn_com_example_label_lattice_labellattice_Names) ?_
  intro p e s m below meth c s₁ Bd hx hby hml hown hnm X0 e0 hZ
  have hB := @hb _ _ hby
  have N0 := Fr.nil n0
  obtain ⟨fs, hr, hrun, hended, hW, hsame⟩ := X0.leave (v := some (.int 0)) (fun h => by rw [Bd.returns] at h; cases h)
  refine ⟨_, _, castTop (ef_prog_27_method_5_code_I m cz) ?_, hrun, hended, _, _, rfl, ?_, ⟨_, rfl⟩, hW, hsame.mono (own_ble rfl) (own_ble rfl)⟩
  · show Steps _ _ _ (s₁.setTop (mkF m 0 #[.val (.int cz)] [])) _
    refine XS.iloadN X0.here hx rfl (hB d20_0) rfl ?_
    refine XS.bipush X0.here hx rfl (hB d20_1) ?_
    refine XS.icmpNo X0.here hx rfl (hB d20_3) rfl (flt (h1 : ¬ (cz < (65 : Int32)))).1 ?_
    refine XS.iloadN X0.here hx rfl (hB d20_6) rfl ?_
    refine XS.bipush X0.here hx rfl (hB d20_7) ?_
    refine XS.icmpNo X0.here hx rfl (hB d20_9) rfl (tlt (h2 : (90 : Int32) < cz)).2.2.2 ?_
    refine XS.iloadN X0.here hx rfl (hB d20_12) rfl ?_
    refine XS.bipush X0.here hx rfl (hB d20_13) ?_
    refine XS.icmpNo X0.here hx rfl (hB d20_15) rfl (flt (h3 : ¬ (cz < (97 : Int32)))).1 ?_
    refine XS.iloadN X0.here hx rfl (hB d20_18) rfl ?_
    refine XS.bipush X0.here hx rfl (hB d20_19) ?_
    refine XS.icmpYes X0.here hx rfl (pc0 := 21) (pc' := 28) rfl (hB d20_21) rfl (tlt (h4 : (122 : Int32) < cz)).2.2.1 (by decide) (by decide) ?_
    refine XS.iconst X0.here hx rfl (hB d20_28) ?_
    exact retN X0 hx (t := .boolean) Bd.returns (by simp) (hB d20_29) hr
  · show Qial Z G1 fm cz h0 n0 _ s₁.heap _
    rw [e0]
    exact ⟨(by rw [own_letter, if_neg h1, if_pos h2, if_neg h3, if_pos h4]), N0, rfl⟩
theorem rmial_G (l : Launch) (Z : State) (a0 : Array Value) (G1 : Int32) (fm : Value) (hG : Glob Z a0 G1 fm) (ws : List Jvm.Cond) (cz : Int32) (h0 : Heap) (n0 : Nat) (Z0 : n0 ≤ h0.size) (X00 : Old Z n0 h0) (h1 : ¬ cz < (65 : Int32)) (h2 : (90 : Int32) < cz) (h3 : ¬ cz < (97 : Int32)) (h4 : ¬ (122 : Int32) < cz) :
    Met l Z h0 y20 prog_27_method_5_code 1 (some .boolean) ws (Room.mk 0 0 0 0) #[.int cz] (Qial Z G1 fm cz h0 n0) := by
  obtain ⟨hw, O_cs, P_cs, O_as, O_hi, O_lo, O_fm, R_fm⟩ := id hG
  have W := @own_W _ _ hw
  refine own_go "com/example/label_lattice/labellattice/Names" rfl (plainFor_of_name pn_com_example_label_lattice_labellattice_Names) ?_
  intro p e s m below meth c s₁ Bd hx hby hml hown hnm X0 e0 hZ
  have hB := @hb _ _ hby
  have N0 := Fr.nil n0
  obtain ⟨fs, hr, hrun, hended, hW, hsame⟩ := X0.leave (v := some (.int 1)) (fun h => by rw [Bd.returns] at h; cases h)
  refine ⟨_, _, castTop (ef_prog_27_method_5_code_I m cz) ?_, hrun, hended, _, _, rfl, ?_, ⟨_, rfl⟩, hW, hsame.mono (own_ble rfl) (own_ble rfl)⟩
  · show Steps _ _ _ (s₁.setTop (mkF m 0 #[.val (.int cz)] [])) _
    refine XS.iloadN X0.here hx rfl (hB d20_0) rfl ?_
    refine XS.bipush X0.here hx rfl (hB d20_1) ?_
    refine XS.icmpNo X0.here hx rfl (hB d20_3) rfl (flt (h1 : ¬ (cz < (65 : Int32)))).1 ?_
    refine XS.iloadN X0.here hx rfl (hB d20_6) rfl ?_
    refine XS.bipush X0.here hx rfl (hB d20_7) ?_
    refine XS.icmpNo X0.here hx rfl (hB d20_9) rfl (tlt (h2 : (90 : Int32) < cz)).2.2.2 ?_
    refine XS.iloadN X0.here hx rfl (hB d20_12) rfl ?_
    refine XS.bipush X0.here hx rfl (hB d20_13) ?_
    refine XS.icmpNo X0.here hx rfl (hB d20_15) rfl (flt (h3 : ¬ (cz < (97 : Int32)))).1 ?_
    refine XS.iloadN X0.here hx rfl (hB d20_18) rfl ?_
    refine XS.bipush X0.here hx rfl (hB d20_19) ?_
    refine XS.icmpNo X0.here hx rfl (hB d20_21) rfl (flt (h4 : ¬ ((122 : Int32) < cz))).2.2.1 ?_
    refine XS.iconst X0.here hx rfl (hB d20_24) ?_
    refine XS.goto X0.here hx rfl (pc0 := 25) (pc' := 29) rfl (hB d20_25) (by decide) (by decide) ?_
    exact retN X0 hx (t := .boolean) Bd.returns (by simp) (hB d20_29) hr
  · show Qial Z G1 fm cz h0 n0 _ s₁.heap _
    rw [e0]
    exact ⟨(by rw [own_letter, if_neg h1, if_pos h2, if_neg h3, if_neg h4]), N0, rfl⟩
theorem rmial (l : Launch) (Z : State) (a0 : Array Value) (G1 : Int32) (fm : Value) (hG : Glob Z a0 G1 fm) (ws : List Jvm.Cond) (cz : Int32) (h0 : Heap) (n0 : Nat) (Z0 : n0 ≤ h0.size) (X00 : Old Z n0 h0) :
    Met l Z h0 y20 prog_27_method_5_code 1 (some .boolean) ws (Room.mk 0 0 0 0) #[.int cz] (Qial Z G1 fm cz h0 n0) := by
  by_cases h1 : cz < (65 : Int32)
  · exact rmial_A l Z a0 G1 fm hG ws cz h0 n0 Z0 X00 h1
  by_cases h2 : (90 : Int32) < cz
  · by_cases h3 : cz < (97 : Int32)
    · exact rmial_E l Z a0 G1 fm hG ws cz h0 n0 Z0 X00 h1 h2 h3
    · by_cases h4 : (122 : Int32) < cz
      · exact rmial_F l Z a0 G1 fm hG ws cz h0 n0 Z0 X00 h1 h2 h3 h4
      · exact rmial_G l Z a0 G1 fm hG ws cz h0 n0 Z0 X00 h1 h2 h3 h4
  exact rmial_D l Z a0 G1 fm hG ws cz h0 n0 Z0 X00 h1 h2
theorem d21_0 : decode method_2_code 0 = .ok (.iload_n 0, 1) := by decide +kernel
theorem d21_1 : decode method_2_code 1 = .ok (.bipush 65, 2) := by decide +kernel
theorem d21_3 : decode method_2_code 3 = .ok (.if_icmp .lt 11, 3) := by decide +kernel
theorem d21_14 : decode method_2_code 14 = .ok (.iload_n 0, 1) := by decide +kernel
theorem d21_15 : decode method_2_code 15 = .ok (.bipush 97, 2) := by decide +kernel
theorem d21_17 : decode method_2_code 17 = .ok (.if_icmp .lt 11, 3) := by decide +kernel
theorem d21_28 : decode method_2_code 28 = .ok (.iconst 0, 1) := by decide +kernel
theorem d21_29 : decode method_2_code 29 = .ok (.ireturn, 1) := by decide +kernel
theorem d21_6 : decode method_2_code 6 = .ok (.iload_n 0, 1) := by decide +kernel
theorem d21_7 : decode method_2_code 7 = .ok (.bipush 90, 2) := by decide +kernel
theorem d21_9 : decode method_2_code 9 = .ok (.if_icmp .gt 5, 3) := by decide +kernel
theorem d21_12 : decode method_2_code 12 = .ok (.iconst 1, 1) := by decide +kernel
theorem d21_13 : decode method_2_code 13 = .ok (.ireturn, 1) := by decide +kernel
theorem d21_20 : decode method_2_code 20 = .ok (.iload_n 0, 1) := by decide +kernel
theorem d21_21 : decode method_2_code 21 = .ok (.bipush 122, 2) := by decide +kernel
theorem d21_23 : decode method_2_code 23 = .ok (.if_icmp .gt 5, 3) := by decide +kernel
theorem d21_26 : decode method_2_code 26 = .ok (.iconst 1, 1) := by decide +kernel
theorem d21_27 : decode method_2_code 27 = .ok (.ireturn, 1) := by decide +kernel
def Qlet (Z : State) (G1 : Int32) (fm : Value) (cz : Int32) (h0 : Heap) (n0 : Nat) (v : Option Value) (h : Heap) (L : List Loc) : Prop := v = some (.int (own_letter cz)) ∧ Fr n0 L ∧ h = h0
theorem ef_method_2_code_I (m : MethodId) (x0 : Int32) : entryFrame m #[.int x0] 1 = mkF m 0 #[.val (.int x0)] [] := by first | (simp [entryFrame, mkF, argsToLocals, Value.category]; done) | rfl
abbrev y21 : MethodName := ⟨"com/example/label_lattice/labellattice/NamesIsValidPinLaw", "letter", "(C)Z"⟩
theorem pn_com_example_label_lattice_labellattice_NamesIsValidPinLaw : plainName "com/example/label_lattice/labellattice/NamesIsValidPinLaw" = true := by first | (simp [plainName, overriddenIn]; done) | decide +kernel
theorem rmlet_A (l : Launch) (Z : State) (a0 : Array Value) (G1 : Int32) (fm : Value) (hG : Glob Z a0 G1 fm) (ws : List Jvm.Cond) (cz : Int32) (h0 : Heap) (n0 : Nat) (Z0 : n0 ≤ h0.size) (X00 : Old Z n0 h0) (h1 : cz < (65 : Int32)) :
    Met l Z h0 y21 method_2_code 1 (some .boolean) ws (Room.mk 0 0 0 0) #[.int cz] (Qlet Z G1 fm cz h0 n0) := by
  obtain ⟨hw, O_cs, P_cs, O_as, O_hi, O_lo, O_fm, R_fm⟩ := id hG
  have W := @own_W _ _ hw
  refine own_go "com/example/label_lattice/labellattice/NamesIsValidPinLaw" rfl (plainFor_of_name pn_com_example_label_lattice_labellattice_NamesIsValidPinLaw) ?_
  intro p e s m below meth c s₁ Bd hx hby hml hown hnm X0 e0 hZ
  have hB := @hb _ _ hby
  have N0 := Fr.nil n0
  obtain ⟨fs, hr, hrun, hended, hW, hsame⟩ := X0.leave (v := some (.int 0)) (fun h => by rw [Bd.returns] at h; cases h)
  refine ⟨_, _, castTop (ef_method_2_code_I m cz) ?_, hrun, hended, _, _, rfl, ?_, ⟨_, rfl⟩, hW, hsame.mono (own_ble rfl) (own_ble rfl)⟩
  · show Steps _ _ _ (s₁.setTop (mkF m 0 #[.val (.int cz)] [])) _
    refine XS.iloadN X0.here hx rfl (hB d21_0) rfl ?_
    refine XS.bipush X0.here hx rfl (hB d21_1) ?_
    refine XS.icmpYes X0.here hx rfl (pc0 := 3) (pc' := 14) rfl (hB d21_3) rfl (tlt (h1 : cz < (65 : Int32))).1 (by decide) (by decide) ?_
    refine XS.iloadN X0.here hx rfl (hB d21_14) rfl ?_
    refine XS.bipush X0.here hx rfl (hB d21_15) ?_
    refine XS.icmpYes X0.here hx rfl (pc0 := 17) (pc' := 28) rfl (hB d21_17) rfl (tlt (own_65 h1 : cz < (97 : Int32))).1 (by decide) (by decide) ?_
    refine XS.iconst X0.here hx rfl (hB d21_28) ?_
    exact retN X0 hx (t := .boolean) Bd.returns (by simp) (hB d21_29) hr
  · show Qlet Z G1 fm cz h0 n0 _ s₁.heap _
    rw [e0]
    exact ⟨(by rw [own_letter, if_pos h1]), N0, rfl⟩
theorem rmlet_D (l : Launch) (Z : State) (a0 : Array Value) (G1 : Int32) (fm : Value) (hG : Glob Z a0 G1 fm) (ws : List Jvm.Cond) (cz : Int32) (h0 : Heap) (n0 : Nat) (Z0 : n0 ≤ h0.size) (X00 : Old Z n0 h0) (h1 : ¬ cz < (65 : Int32)) (h2 : ¬ ((90 : Int32) < cz)) :
    Met l Z h0 y21 method_2_code 1 (some .boolean) ws (Room.mk 0 0 0 0) #[.int cz] (Qlet Z G1 fm cz h0 n0) := by
  obtain ⟨hw, O_cs, P_cs, O_as, O_hi, O_lo, O_fm, R_fm⟩ := id hG
  have W := @own_W _ _ hw
  refine own_go "com/example/label_lattice/labellattice/NamesIsValidPinLaw" rfl (plainFor_of_name pn_com_example_label_lattice_labellattice_NamesIsValidPinLaw) ?_
  intro p e s m below meth c s₁ Bd hx hby hml hown hnm X0 e0 hZ
  have hB := @hb _ _ hby
  have N0 := Fr.nil n0
  obtain ⟨fs, hr, hrun, hended, hW, hsame⟩ := X0.leave (v := some (.int 1)) (fun h => by rw [Bd.returns] at h; cases h)
  refine ⟨_, _, castTop (ef_method_2_code_I m cz) ?_, hrun, hended, _, _, rfl, ?_, ⟨_, rfl⟩, hW, hsame.mono (own_ble rfl) (own_ble rfl)⟩
  · show Steps _ _ _ (s₁.setTop (mkF m 0 #[.val (.int cz)] [])) _
    refine XS.iloadN X0.here hx rfl (hB d21_0) rfl ?_
    refine XS.bipush X0.here hx rfl (hB d21_1) ?_
    refine XS.icmpNo X0.here hx rfl (hB d21_3) rfl (flt (h1 : ¬ (cz < (65 : Int32)))).1 ?_
    refine XS.iloadN X0.here hx rfl (hB d21_6) rfl ?_
    refine XS.bipush X0.here hx rfl (hB d21_7) ?_
    refine XS.icmpNo X0.here hx rfl (hB d21_9) rfl (flt (h2 : ¬ ((90 : Int32) < cz))).2.2.1 ?_
    refine XS.iconst X0.here hx rfl (hB d21_12) ?_
    exact retN X0 hx (t := .boolean) Bd.returns (by simp) (hB d21_13) hr
  · show Qlet Z G1 fm cz h0 n0 _ s₁.heap _
    rw [e0]
    exact ⟨(by rw [own_letter, if_neg h1, if_neg h2]), N0, rfl⟩
theorem rmlet_E (l : Launch) (Z : State) (a0 : Array Value) (G1 : Int32) (fm : Value) (hG : Glob Z a0 G1 fm) (ws : List Jvm.Cond) (cz : Int32) (h0 : Heap) (n0 : Nat) (Z0 : n0 ≤ h0.size) (X00 : Old Z n0 h0) (h1 : ¬ cz < (65 : Int32)) (h2 : (90 : Int32) < cz) (h3 : cz < (97 : Int32)) :
    Met l Z h0 y21 method_2_code 1 (some .boolean) ws (Room.mk 0 0 0 0) #[.int cz] (Qlet Z G1 fm cz h0 n0) := by
  obtain ⟨hw, O_cs, P_cs, O_as, O_hi, O_lo, O_fm, R_fm⟩ := id hG
  have W := @own_W _ _ hw
  refine own_go "com/example/label_lattice/labellattice/NamesIsValidPinLaw" rfl (plainFor_of_name pn_com_example_label_lattice_labellattice_NamesIsValidPinLaw) ?_
  intro p e s m below meth c s₁ Bd hx hby hml hown hnm X0 e0 hZ
  have hB := @hb _ _ hby
  have N0 := Fr.nil n0
  obtain ⟨fs, hr, hrun, hended, hW, hsame⟩ := X0.leave (v := some (.int 0)) (fun h => by rw [Bd.returns] at h; cases h)
  refine ⟨_, _, castTop (ef_method_2_code_I m cz) ?_, hrun, hended, _, _, rfl, ?_, ⟨_, rfl⟩, hW, hsame.mono (own_ble rfl) (own_ble rfl)⟩
  · show Steps _ _ _ (s₁.setTop (mkF m 0 #[.val (.int cz)] [])) _
    refine XS.iloadN X0.here hx rfl (hB d21_0) rfl ?_
    refine XS.bipush X0.here hx rfl (hB d21_1) ?_
    refine XS.icmpNo X0.here hx rfl (hB d21_3) rfl (flt (h1 : ¬ (cz < (65 : Int32)))).1 ?_
    refine XS.iloadN X0.here hx rfl (hB d21_6) rfl ?_
    refine XS.bipush X0.here hx rfl (hB d21_7) ?_
    refine XS.icmpYes X0.here hx rfl (pc0 := 9) (pc' := 14) rfl (hB d21_9) rfl (tlt (h2 : (90 : Int32) < cz)).2.2.1 (by decide) (by decide) ?_
    refine XS.iloadN X0.here hx rfl (hB d21_14) rfl ?_
    refine XS.bipush X0.here hx rfl (hB d21_15) ?_
    refine XS.icmpYes X0.here hx rfl (pc0 := 17) (pc' := 28) rfl (hB d21_17) rfl (tlt (h3 : cz < (97 : Int32))).1 (by decide) (by decide) ?_
    refine XS.iconst X0.here hx rfl (hB d21_28) ?_
    exact retN X0 hx (t := .boolean) Bd.returns (by simp) (hB d21_29) hr
  · show Qlet Z G1 fm cz h0 n0 _ s₁.heap _
    rw [e0]
    exact ⟨(by rw [own_letter, if_neg h1, if_pos h2, if_pos h3]), N0, rfl⟩
theorem rmlet_F (l : Launch) (Z : State) (a0 : Array Value) (G1 : Int32) (fm : Value) (hG : Glob Z a0 G1 fm) (ws : List Jvm.Cond) (cz : Int32) (h0 : Heap) (n0 : Nat) (Z0 : n0 ≤ h0.size) (X00 : Old Z n0 h0) (h1 : ¬ cz < (65 : Int32)) (h2 : (90 : Int32) < cz) (h3 : ¬ cz < (97 : Int32)) (h4 : (122 : Int32) < cz) :
    Met l Z h0 y21 method_2_code 1 (some .boolean) ws (Room.mk 0 0 0 0) #[.int cz] (Qlet Z G1 fm cz h0 n0) := by
  obtain ⟨hw, O_cs, P_cs, O_as, O_hi, O_lo, O_fm, R_fm⟩ := id hG
  have W := @own_W _ _ hw
  refine own_go "com/example/label_lattice/labellattice/NamesIsValidPinLaw" rfl (plainFor_of_name pn_com_example_label_lattice_labellattice_NamesIsValidPinLaw) ?_
  intro p e s m below meth c s₁ Bd hx hby hml hown hnm X0 e0 hZ
  have hB := @hb _ _ hby
  have N0 := Fr.nil n0
  obtain ⟨fs, hr, hrun, hended, hW, hsame⟩ := X0.leave (v := some (.int 0)) (fun h => by rw [Bd.returns] at h; cases h)
  refine ⟨_, _, castTop (ef_method_2_code_I m cz) ?_, hrun, hended, _, _, rfl, ?_, ⟨_, rfl⟩, hW, hsame.mono (own_ble rfl) (own_ble rfl)⟩
  · show Steps _ _ _ (s₁.setTop (mkF m 0 #[.val (.int cz)] [])) _
    refine XS.iloadN X0.here hx rfl (hB d21_0) rfl ?_
    refine XS.bipush X0.here hx rfl (hB d21_1) ?_
    refine XS.icmpNo X0.here hx rfl (hB d21_3) rfl (flt (h1 : ¬ (cz < (65 : Int32)))).1 ?_
    refine XS.iloadN X0.here hx rfl (hB d21_6) rfl ?_
    refine XS.bipush X0.here hx rfl (hB d21_7) ?_
    refine XS.icmpYes X0.here hx rfl (pc0 := 9) (pc' := 14) rfl (hB d21_9) rfl (tlt (h2 : (90 : Int32) < cz)).2.2.1 (by decide) (by decide) ?_
    refine XS.iloadN X0.here hx rfl (hB d21_14) rfl ?_
    refine XS.bipush X0.here hx rfl (hB d21_15) ?_
    refine XS.icmpNo X0.here hx rfl (hB d21_17) rfl (flt (h3 : ¬ (cz < (97 : Int32)))).1 ?_
    refine XS.iloadN X0.here hx rfl (hB d21_20) rfl ?_
    refine XS.bipush X0.here hx rfl (hB d21_21) ?_
    refine XS.icmpYes X0.here hx rfl (pc0 := 23) (pc' := 28) rfl (hB d21_23) rfl (tlt (h4 : (122 : Int32) < cz)).2.2.1 (by decide) (by decide) ?_
    refine XS.iconst X0.here hx rfl (hB d21_28) ?_
    exact retN X0 hx (t := .boolean) Bd.returns (by simp) (hB d21_29) hr
  · show Qlet Z G1 fm cz h0 n0 _ s₁.heap _
    rw [e0]
    exact ⟨(by rw [own_letter, if_neg h1, if_pos h2, if_neg h3, if_pos h4]), N0, rfl⟩
theorem rmlet_G (l : Launch) (Z : State) (a0 : Array Value) (G1 : Int32) (fm : Value) (hG : Glob Z a0 G1 fm) (ws : List Jvm.Cond) (cz : Int32) (h0 : Heap) (n0 : Nat) (Z0 : n0 ≤ h0.size) (X00 : Old Z n0 h0) (h1 : ¬ cz < (65 : Int32)) (h2 : (90 : Int32) < cz) (h3 : ¬ cz < (97 : Int32)) (h4 : ¬ (122 : Int32) < cz) :
    Met l Z h0 y21 method_2_code 1 (some .boolean) ws (Room.mk 0 0 0 0) #[.int cz] (Qlet Z G1 fm cz h0 n0) := by
  obtain ⟨hw, O_cs, P_cs, O_as, O_hi, O_lo, O_fm, R_fm⟩ := id hG
  have W := @own_W _ _ hw
  refine own_go "com/example/label_lattice/labellattice/NamesIsValidPinLaw" rfl (plainFor_of_name pn_com_example_label_lattice_labellattice_NamesIsValidPinLaw) ?_
  intro p e s m below meth c s₁ Bd hx hby hml hown hnm X0 e0 hZ
  have hB := @hb _ _ hby
  have N0 := Fr.nil n0
  obtain ⟨fs, hr, hrun, hended, hW, hsame⟩ := X0.leave (v := some (.int 1)) (fun h => by rw [Bd.returns] at h; cases h)
  refine ⟨_, _, castTop (ef_method_2_code_I m cz) ?_, hrun, hended, _, _, rfl, ?_, ⟨_, rfl⟩, hW, hsame.mono (own_ble rfl) (own_ble rfl)⟩
  · show Steps _ _ _ (s₁.setTop (mkF m 0 #[.val (.int cz)] [])) _
    refine XS.iloadN X0.here hx rfl (hB d21_0) rfl ?_
    refine XS.bipush X0.here hx rfl (hB d21_1) ?_
    refine XS.icmpNo X0.here hx rfl (hB d21_3) rfl (flt (h1 : ¬ (cz < (65 : Int32)))).1 ?_
    refine XS.iloadN X0.here hx rfl (hB d21_6) rfl ?_
    refine XS.bipush X0.here hx rfl (hB d21_7) ?_
    refine XS.icmpYes X0.here hx rfl (pc0 := 9) (pc' := 14) rfl (hB d21_9) rfl (tlt (h2 : (90 : Int32) < cz)).2.2.1 (by decide) (by decide) ?_
    refine XS.iloadN X0.here hx rfl (hB d21_14) rfl ?_
    refine XS.bipush X0.here hx rfl (hB d21_15) ?_
    refine XS.icmpNo X0.here hx rfl (hB d21_17) rfl (flt (h3 : ¬ (cz < (97 : Int32)))).1 ?_
    refine XS.iloadN X0.here hx rfl (hB d21_20) rfl ?_
    refine XS.bipush X0.here hx rfl (hB d21_21) ?_
    refine XS.icmpNo X0.here hx rfl (hB d21_23) rfl (flt (h4 : ¬ ((122 : Int32) < cz))).2.2.1 ?_
    refine XS.iconst X0.here hx rfl (hB d21_26) ?_
    exact retN X0 hx (t := .boolean) Bd.returns (by simp) (hB d21_27) hr
  · show Qlet Z G1 fm cz h0 n0 _ s₁.heap _
    rw [e0]
    exact ⟨(by rw [own_letter, if_neg h1, if_pos h2, if_neg h3, if_neg h4]), N0, rfl⟩
theorem rmlet (l : Launch) (Z : State) (a0 : Array Value) (G1 : Int32) (fm : Value) (hG : Glob Z a0 G1 fm) (ws : List Jvm.Cond) (cz : Int32) (h0 : Heap) (n0 : Nat) (Z0 : n0 ≤ h0.size) (X00 : Old Z n0 h0) :
    Met l Z h0 y21 method_2_code 1 (some .boolean) ws (Room.mk 0 0 0 0) #[.int cz] (Qlet Z G1 fm cz h0 n0) := by
  by_cases h1 : cz < (65 : Int32)
  · exact rmlet_A l Z a0 G1 fm hG ws cz h0 n0 Z0 X00 h1
  by_cases h2 : (90 : Int32) < cz
  · by_cases h3 : cz < (97 : Int32)
    · exact rmlet_E l Z a0 G1 fm hG ws cz h0 n0 Z0 X00 h1 h2 h3
    · by_cases h4 : (122 : Int32) < cz
      · exact rmlet_F l Z a0 G1 fm hG ws cz h0 n0 Z0 X00 h1 h2 h3 h4
      · exact rmlet_G l Z a0 G1 fm hG ws cz h0 n0 Z0 X00 h1 h2 h3 h4
  exact rmlet_D l Z a0 G1 fm hG ws cz h0 n0 Z0 X00 h1 h2
theorem d22_0 : decode prog_27_method_6_code 0 = .ok (.iload_n 0, 1) := by decide +kernel
theorem d22_1 : decode prog_27_method_6_code 1 = .ok (.bipush 48, 2) := by decide +kernel
theorem d22_3 : decode prog_27_method_6_code 3 = .ok (.if_icmp .lt 13, 3) := by decide +kernel
theorem d22_16 : decode prog_27_method_6_code 16 = .ok (.iconst 0, 1) := by decide +kernel
theorem d22_17 : decode prog_27_method_6_code 17 = .ok (.ireturn, 1) := by decide +kernel
theorem d22_6 : decode prog_27_method_6_code 6 = .ok (.iload_n 0, 1) := by decide +kernel
theorem d22_7 : decode prog_27_method_6_code 7 = .ok (.bipush 57, 2) := by decide +kernel
theorem d22_9 : decode prog_27_method_6_code 9 = .ok (.if_icmp .gt 7, 3) := by decide +kernel
theorem d22_12 : decode prog_27_method_6_code 12 = .ok (.iconst 1, 1) := by decide +kernel
theorem d22_13 : decode prog_27_method_6_code 13 = .ok (.goto 4, 3) := by decide +kernel
def Qiad (Z : State) (G1 : Int32) (fm : Value) (cz : Int32) (h0 : Heap) (n0 : Nat) (v : Option Value) (h : Heap) (L : List Loc) : Prop := v = some (.int (own_digit cz)) ∧ Fr n0 L ∧ h = h0
theorem ef_prog_27_method_6_code_I (m : MethodId) (x0 : Int32) : entryFrame m #[.int x0] 1 = mkF m 0 #[.val (.int x0)] [] := by first | (simp [entryFrame, mkF, argsToLocals, Value.category]; done) | rfl
abbrev y22 : MethodName := ⟨"com/example/label_lattice/labellattice/Names", "isAsciiDigit", "(C)Z"⟩
theorem rmiad_A (l : Launch) (Z : State) (a0 : Array Value) (G1 : Int32) (fm : Value) (hG : Glob Z a0 G1 fm) (ws : List Jvm.Cond) (cz : Int32) (h0 : Heap) (n0 : Nat) (Z0 : n0 ≤ h0.size) (X00 : Old Z n0 h0) (h1 : cz < (48 : Int32)) :
    Met l Z h0 y22 prog_27_method_6_code 1 (some .boolean) ws (Room.mk 0 0 0 0) #[.int cz] (Qiad Z G1 fm cz h0 n0) := by
  obtain ⟨hw, O_cs, P_cs, O_as, O_hi, O_lo, O_fm, R_fm⟩ := id hG
  have W := @own_W _ _ hw
  refine own_go "com/example/label_lattice/labellattice/Names" rfl (plainFor_of_name pn_com_example_label_lattice_labellattice_Names) ?_
  intro p e s m below meth c s₁ Bd hx hby hml hown hnm X0 e0 hZ
  have hB := @hb _ _ hby
  have N0 := Fr.nil n0
  obtain ⟨fs, hr, hrun, hended, hW, hsame⟩ := X0.leave (v := some (.int 0)) (fun h => by rw [Bd.returns] at h; cases h)
  refine ⟨_, _, castTop (ef_prog_27_method_6_code_I m cz) ?_, hrun, hended, _, _, rfl, ?_, ⟨_, rfl⟩, hW, hsame.mono (own_ble rfl) (own_ble rfl)⟩
  · show Steps _ _ _ (s₁.setTop (mkF m 0 #[.val (.int cz)] [])) _
    refine XS.iloadN X0.here hx rfl (hB d22_0) rfl ?_
    refine XS.bipush X0.here hx rfl (hB d22_1) ?_
    refine XS.icmpYes X0.here hx rfl (pc0 := 3) (pc' := 16) rfl (hB d22_3) rfl (tlt (h1 : cz < (48 : Int32))).1 (by decide) (by decide) ?_
    refine XS.iconst X0.here hx rfl (hB d22_16) ?_
    exact retN X0 hx (t := .boolean) Bd.returns (by simp) (hB d22_17) hr
  · show Qiad Z G1 fm cz h0 n0 _ s₁.heap _
    rw [e0]
    exact ⟨(by rw [own_digit, if_pos h1]), N0, rfl⟩
theorem rmiad_B (l : Launch) (Z : State) (a0 : Array Value) (G1 : Int32) (fm : Value) (hG : Glob Z a0 G1 fm) (ws : List Jvm.Cond) (cz : Int32) (h0 : Heap) (n0 : Nat) (Z0 : n0 ≤ h0.size) (X00 : Old Z n0 h0) (h1 : ¬ cz < (48 : Int32)) (h2 : (57 : Int32) < cz) :
    Met l Z h0 y22 prog_27_method_6_code 1 (some .boolean) ws (Room.mk 0 0 0 0) #[.int cz] (Qiad Z G1 fm cz h0 n0) := by
  obtain ⟨hw, O_cs, P_cs, O_as, O_hi, O_lo, O_fm, R_fm⟩ := id hG
  have W := @own_W _ _ hw
  refine own_go "com/example/label_lattice/labellattice/Names" rfl (plainFor_of_name pn_com_example_label_lattice_labellattice_Names) ?_
  intro p e s m below meth c s₁ Bd hx hby hml hown hnm X0 e0 hZ
  have hB := @hb _ _ hby
  have N0 := Fr.nil n0
  obtain ⟨fs, hr, hrun, hended, hW, hsame⟩ := X0.leave (v := some (.int 0)) (fun h => by rw [Bd.returns] at h; cases h)
  refine ⟨_, _, castTop (ef_prog_27_method_6_code_I m cz) ?_, hrun, hended, _, _, rfl, ?_, ⟨_, rfl⟩, hW, hsame.mono (own_ble rfl) (own_ble rfl)⟩
  · show Steps _ _ _ (s₁.setTop (mkF m 0 #[.val (.int cz)] [])) _
    refine XS.iloadN X0.here hx rfl (hB d22_0) rfl ?_
    refine XS.bipush X0.here hx rfl (hB d22_1) ?_
    refine XS.icmpNo X0.here hx rfl (hB d22_3) rfl (flt (h1 : ¬ (cz < (48 : Int32)))).1 ?_
    refine XS.iloadN X0.here hx rfl (hB d22_6) rfl ?_
    refine XS.bipush X0.here hx rfl (hB d22_7) ?_
    refine XS.icmpYes X0.here hx rfl (pc0 := 9) (pc' := 16) rfl (hB d22_9) rfl (tlt (h2 : (57 : Int32) < cz)).2.2.1 (by decide) (by decide) ?_
    refine XS.iconst X0.here hx rfl (hB d22_16) ?_
    exact retN X0 hx (t := .boolean) Bd.returns (by simp) (hB d22_17) hr
  · show Qiad Z G1 fm cz h0 n0 _ s₁.heap _
    rw [e0]
    exact ⟨(by rw [own_digit, if_neg h1, if_pos h2]), N0, rfl⟩
theorem rmiad_C (l : Launch) (Z : State) (a0 : Array Value) (G1 : Int32) (fm : Value) (hG : Glob Z a0 G1 fm) (ws : List Jvm.Cond) (cz : Int32) (h0 : Heap) (n0 : Nat) (Z0 : n0 ≤ h0.size) (X00 : Old Z n0 h0) (h1 : ¬ cz < (48 : Int32)) (h2 : ¬ (57 : Int32) < cz) :
    Met l Z h0 y22 prog_27_method_6_code 1 (some .boolean) ws (Room.mk 0 0 0 0) #[.int cz] (Qiad Z G1 fm cz h0 n0) := by
  obtain ⟨hw, O_cs, P_cs, O_as, O_hi, O_lo, O_fm, R_fm⟩ := id hG
  have W := @own_W _ _ hw
  refine own_go "com/example/label_lattice/labellattice/Names" rfl (plainFor_of_name pn_com_example_label_lattice_labellattice_Names) ?_
  intro p e s m below meth c s₁ Bd hx hby hml hown hnm X0 e0 hZ
  have hB := @hb _ _ hby
  have N0 := Fr.nil n0
  obtain ⟨fs, hr, hrun, hended, hW, hsame⟩ := X0.leave (v := some (.int 1)) (fun h => by rw [Bd.returns] at h; cases h)
  refine ⟨_, _, castTop (ef_prog_27_method_6_code_I m cz) ?_, hrun, hended, _, _, rfl, ?_, ⟨_, rfl⟩, hW, hsame.mono (own_ble rfl) (own_ble rfl)⟩
  · show Steps _ _ _ (s₁.setTop (mkF m 0 #[.val (.int cz)] [])) _
    refine XS.iloadN X0.here hx rfl (hB d22_0) rfl ?_
    refine XS.bipush X0.here hx rfl (hB d22_1) ?_
    refine XS.icmpNo X0.here hx rfl (hB d22_3) rfl (flt (h1 : ¬ (cz < (48 : Int32)))).1 ?_
    refine XS.iloadN X0.here hx rfl (hB d22_6) rfl ?_
    refine XS.bipush X0.here hx rfl (hB d22_7) ?_
    refine XS.icmpNo X0.here hx rfl (hB d22_9) rfl (flt (h2 : ¬ ((57 : Int32) < cz))).2.2.1 ?_
    refine XS.iconst X0.here hx rfl (hB d22_12) ?_
    refine XS.goto X0.here hx rfl (pc0 := 13) (pc' := 17) rfl (hB d22_13) (by decide) (by decide) ?_
    exact retN X0 hx (t := .boolean) Bd.returns (by simp) (hB d22_17) hr
  · show Qiad Z G1 fm cz h0 n0 _ s₁.heap _
    rw [e0]
    exact ⟨(by rw [own_digit, if_neg h1, if_neg h2]), N0, rfl⟩
theorem rmiad (l : Launch) (Z : State) (a0 : Array Value) (G1 : Int32) (fm : Value) (hG : Glob Z a0 G1 fm) (ws : List Jvm.Cond) (cz : Int32) (h0 : Heap) (n0 : Nat) (Z0 : n0 ≤ h0.size) (X00 : Old Z n0 h0) :
    Met l Z h0 y22 prog_27_method_6_code 1 (some .boolean) ws (Room.mk 0 0 0 0) #[.int cz] (Qiad Z G1 fm cz h0 n0) := by
  by_cases h1 : cz < (48 : Int32)
  · exact rmiad_A l Z a0 G1 fm hG ws cz h0 n0 Z0 X00 h1
  by_cases h2 : (57 : Int32) < cz
  · exact rmiad_B l Z a0 G1 fm hG ws cz h0 n0 Z0 X00 h1 h2
  exact rmiad_C l Z a0 G1 fm hG ws cz h0 n0 Z0 X00 h1 h2
theorem d23_0 : decode method_3_code 0 = .ok (.iload_n 0, 1) := by decide +kernel
theorem d23_1 : decode method_3_code 1 = .ok (.invokestatic 7, 3) := by decide +kernel
theorem pd__C_Z : parseMethodDescriptor "(C)Z" = some ⟨[.char], some .boolean⟩ := by decide +kernel
theorem d23_4 : decode method_3_code 4 = .ok (.ifCond .eq 5, 3) := by decide +kernel
theorem d23_7 : decode method_3_code 7 = .ok (.iconst 1, 1) := by decide +kernel
theorem d23_8 : decode method_3_code 8 = .ok (.ireturn, 1) := by decide +kernel
theorem d23_9 : decode method_3_code 9 = .ok (.iload_n 0, 1) := by decide +kernel
theorem d23_10 : decode method_3_code 10 = .ok (.bipush 48, 2) := by decide +kernel
theorem d23_12 : decode method_3_code 12 = .ok (.if_icmp .lt 11, 3) := by decide +kernel
theorem d23_23 : decode method_3_code 23 = .ok (.iload_n 0, 1) := by decide +kernel
theorem d23_24 : decode method_3_code 24 = .ok (.bipush 95, 2) := by decide +kernel
theorem d23_26 : decode method_3_code 26 = .ok (.if_icmp .ne 7, 3) := by decide +kernel
theorem d23_33 : decode method_3_code 33 = .ok (.iconst 0, 1) := by decide +kernel
theorem d23_34 : decode method_3_code 34 = .ok (.ireturn, 1) := by decide +kernel
theorem d23_29 : decode method_3_code 29 = .ok (.iconst 1, 1) := by decide +kernel
theorem d23_30 : decode method_3_code 30 = .ok (.goto 4, 3) := by decide +kernel
theorem d23_15 : decode method_3_code 15 = .ok (.iload_n 0, 1) := by decide +kernel
theorem d23_16 : decode method_3_code 16 = .ok (.bipush 57, 2) := by decide +kernel
theorem d23_18 : decode method_3_code 18 = .ok (.if_icmp .gt 5, 3) := by decide +kernel
theorem d23_21 : decode method_3_code 21 = .ok (.iconst 1, 1) := by decide +kernel
theorem d23_22 : decode method_3_code 22 = .ok (.ireturn, 1) := by decide +kernel
def Qwch (Z : State) (G1 : Int32) (fm : Value) (cz : Int32) (h0 : Heap) (n0 : Nat) (v : Option Value) (h : Heap) (L : List Loc) : Prop := v = some (.int (own_word cz)) ∧ Fr n0 L ∧ h = h0
theorem ef_method_3_code_I (m : MethodId) (x0 : Int32) : entryFrame m #[.int x0] 1 = mkF m 0 #[.val (.int x0)] [] := by first | (simp [entryFrame, mkF, argsToLocals, Value.category]; done) | rfl
abbrev y23 : MethodName := ⟨"com/example/label_lattice/labellattice/NamesIsValidPinLaw", "wordChar", "(C)Z"⟩
theorem rmwch_L (l : Launch) (Z : State) (a0 : Array Value) (G1 : Int32) (fm : Value) (hG : Glob Z a0 G1 fm) (ws : List Jvm.Cond) (cz : Int32) (h0 : Heap) (n0 : Nat) (Z0 : n0 ≤ h0.size) (X00 : Old Z n0 h0) (h0_ : ¬ own_letter cz = (0 : Int32)) :
    Met l Z h0 y23 method_3_code 1 (some .boolean) ws (Room.mk 1 0 0 12) #[.int cz] (Qwch Z G1 fm cz h0 n0) := by
  obtain ⟨hw, O_cs, P_cs, O_as, O_hi, O_lo, O_fm, R_fm⟩ := id hG
  have W := @own_W _ _ hw
  refine own_go "com/example/label_lattice/labellattice/NamesIsValidPinLaw" rfl (plainFor_of_name pn_com_example_label_lattice_labellattice_NamesIsValidPinLaw) ?_
  intro p e s m below meth c s₁ Bd hx hby hml hown hnm X0 e0 hZ
  have hB := @hb _ _ hby
  have N0 := Fr.nil n0
  -- pc 1: com/example/label_lattice/labellattice/NamesIsValidPinLaw.letter
  obtain ⟨_, _, ⟨T444, L444, k444, n444⟩, -, X444, ⟨Lc444, hQ444, l444, y444, z444⟩, st444⟩ := Jvm.LawKit.callS X0 hx (y := y21) hown (mvT hZ (W 48 rfl)) (mvT hZ (W 49 rfl)) (mvT hZ (W 50 rfl)) (mvT hZ (W 51 rfl)) (by decide) (backOf (W := 0) (rmlet l Z a0 G1 fm hG [] cz h0 n0 Z0 X00) hZ (W 51 rfl) (W 50 rfl) (by decide) (by decide)) (g := (mkF m 1 #[.val (.int cz)] [.int cz])) rfl (by rw [hml]; rfl) (argsL := [.int cz]) (rest := []) (lenOf pd__C_Z rfl) rfl (by show 2 * 0 + _ ≤ _; exact Nat.le_of_eq rfl) (hB d23_1) (fun _ _ => ⟨rfl, e0, (by decide : 0 + 0 ≤ _), (by decide : 0 + 0 ≤ _)⟩)
  dsimp only [Pt.U, Pt.locs, Pt.cells, Pt.slots] at X444 l444 y444 z444 st444 hQ444
  subst l444 y444 z444
  obtain ⟨rfl, N444q, eq444⟩ := hQ444
  have N444 := Fr.app N0 N444q
  obtain ⟨fs, hr, hrun, hended, hW, hsame⟩ := X444.leave (v := some (.int 1)) (fun h => by rw [Bd.returns] at h; cases h)
  refine ⟨_, _, castTop (ef_method_3_code_I m cz) ?_, hrun, hended, _, _, rfl, ?_, ⟨_, rfl⟩, hW, hsame.mono (own_ble rfl) (own_ble rfl)⟩
  · show Steps _ _ _ (s₁.setTop (mkF m 0 #[.val (.int cz)] [])) _
    refine XS.iloadN X0.here hx rfl (hB d23_0) rfl ?_
    refine st444 _ ?_
    show Steps _ _ _ (T444.setTop (mkF m 4 #[.val (.int cz)] [(.int (own_letter cz))])) _
    refine XS.ifNo X444.here hx rfl (hB d23_4) rfl ((if0 _ _).trans (feq (h0_ : ¬ ((own_letter cz) = (0 : Int32)))).1) ?_
    refine XS.iconst X444.here hx rfl (hB d23_7) ?_
    exact retN X444 hx (t := .boolean) Bd.returns (by simp) (hB d23_8) hr
  · show Qwch Z G1 fm cz h0 n0 _ T444.heap _
    rw [eq444]
    exact ⟨(by rw [own_word, if_neg h0_]), N444, rfl⟩
theorem rmwch_a (l : Launch) (Z : State) (a0 : Array Value) (G1 : Int32) (fm : Value) (hG : Glob Z a0 G1 fm) (ws : List Jvm.Cond) (cz : Int32) (h0 : Heap) (n0 : Nat) (Z0 : n0 ≤ h0.size) (X00 : Old Z n0 h0) (h0_ : own_letter cz = (0 : Int32)) (h1 : cz < (48 : Int32)) (h3 : ¬ cz = (95 : Int32)) :
    Met l Z h0 y23 method_3_code 1 (some .boolean) ws (Room.mk 1 0 0 12) #[.int cz] (Qwch Z G1 fm cz h0 n0) := by
  obtain ⟨hw, O_cs, P_cs, O_as, O_hi, O_lo, O_fm, R_fm⟩ := id hG
  have W := @own_W _ _ hw
  refine own_go "com/example/label_lattice/labellattice/NamesIsValidPinLaw" rfl (plainFor_of_name pn_com_example_label_lattice_labellattice_NamesIsValidPinLaw) ?_
  intro p e s m below meth c s₁ Bd hx hby hml hown hnm X0 e0 hZ
  have hB := @hb _ _ hby
  have N0 := Fr.nil n0
  -- pc 1: com/example/label_lattice/labellattice/NamesIsValidPinLaw.letter
  obtain ⟨_, _, ⟨T445, L445, k445, n445⟩, -, X445, ⟨Lc445, hQ445, l445, y445, z445⟩, st445⟩ := Jvm.LawKit.callS X0 hx (y := y21) hown (mvT hZ (W 48 rfl)) (mvT hZ (W 49 rfl)) (mvT hZ (W 50 rfl)) (mvT hZ (W 51 rfl)) (by decide) (backOf (W := 0) (rmlet l Z a0 G1 fm hG [] cz h0 n0 Z0 X00) hZ (W 51 rfl) (W 50 rfl) (by decide) (by decide)) (g := (mkF m 1 #[.val (.int cz)] [.int cz])) rfl (by rw [hml]; rfl) (argsL := [.int cz]) (rest := []) (lenOf pd__C_Z rfl) rfl (by show 2 * 0 + _ ≤ _; exact Nat.le_of_eq rfl) (hB d23_1) (fun _ _ => ⟨rfl, e0, (by decide : 0 + 0 ≤ _), (by decide : 0 + 0 ≤ _)⟩)
  dsimp only [Pt.U, Pt.locs, Pt.cells, Pt.slots] at X445 l445 y445 z445 st445 hQ445
  subst l445 y445 z445
  obtain ⟨rfl, N445q, eq445⟩ := hQ445
  have N445 := Fr.app N0 N445q
  obtain ⟨fs, hr, hrun, hended, hW, hsame⟩ := X445.leave (v := some (.int 0)) (fun h => by rw [Bd.returns] at h; cases h)
  refine ⟨_, _, castTop (ef_method_3_code_I m cz) ?_, hrun, hended, _, _, rfl, ?_, ⟨_, rfl⟩, hW, hsame.mono (own_ble rfl) (own_ble rfl)⟩
  · show Steps _ _ _ (s₁.setTop (mkF m 0 #[.val (.int cz)] [])) _
    refine XS.iloadN X0.here hx rfl (hB d23_0) rfl ?_
    refine st445 _ ?_
    show Steps _ _ _ (T445.setTop (mkF m 4 #[.val (.int cz)] [(.int (own_letter cz))])) _
    refine XS.ifYes X445.here hx rfl (pc0 := 4) (pc' := 9) rfl (hB d23_4) rfl ((if0 _ _).trans (teq (h0_ : (own_letter cz) = (0 : Int32))).1) (by decide) (by decide) ?_
    refine XS.iloadN X445.here hx rfl (hB d23_9) rfl ?_
    refine XS.bipush X445.here hx rfl (hB d23_10) ?_
    refine XS.icmpYes X445.here hx rfl (pc0 := 12) (pc' := 23) rfl (hB d23_12) rfl (tlt (h1 : cz < (48 : Int32))).1 (by decide) (by decide) ?_
    refine XS.iloadN X445.here hx rfl (hB d23_23) rfl ?_
    refine XS.bipush X445.here hx rfl (hB d23_24) ?_
    refine XS.icmpYes X445.here hx rfl (pc0 := 26) (pc' := 33) rfl (hB d23_26) rfl (feq (h3 : ¬ (cz = (95 : Int32)))).2 (by decide) (by decide) ?_
    refine XS.iconst X445.here hx rfl (hB d23_33) ?_
    exact retN X445 hx (t := .boolean) Bd.returns (by simp) (hB d23_34) hr
  · show Qwch Z G1 fm cz h0 n0 _ T445.heap _
    rw [eq445]
    exact ⟨(by rw [own_word, if_pos h0_, own_digit, if_pos h1, if_pos rfl, if_neg h3]), N445, rfl⟩
theorem rmwch_b (l : Launch) (Z : State) (a0 : Array Value) (G1 : Int32) (fm : Value) (hG : Glob Z a0 G1 fm) (ws : List Jvm.Cond) (cz : Int32) (h0 : Heap) (n0 : Nat) (Z0 : n0 ≤ h0.size) (X00 : Old Z n0 h0) (h0_ : own_letter cz = (0 : Int32)) (h1 : cz < (48 : Int32)) (h3 : cz = (95 : Int32)) :
    Met l Z h0 y23 method_3_code 1 (some .boolean) ws (Room.mk 1 0 0 12) #[.int cz] (Qwch Z G1 fm cz h0 n0) := by
  obtain ⟨hw, O_cs, P_cs, O_as, O_hi, O_lo, O_fm, R_fm⟩ := id hG
  have W := @own_W _ _ hw
  refine own_go "com/example/label_lattice/labellattice/NamesIsValidPinLaw" rfl (plainFor_of_name pn_com_example_label_lattice_labellattice_NamesIsValidPinLaw) ?_
  intro p e s m below meth c s₁ Bd hx hby hml hown hnm X0 e0 hZ
  have hB := @hb _ _ hby
  have N0 := Fr.nil n0
  -- pc 1: com/example/label_lattice/labellattice/NamesIsValidPinLaw.letter
  obtain ⟨_, _, ⟨T446, L446, k446, n446⟩, -, X446, ⟨Lc446, hQ446, l446, y446, z446⟩, st446⟩ := Jvm.LawKit.callS X0 hx (y := y21) hown (mvT hZ (W 48 rfl)) (mvT hZ (W 49 rfl)) (mvT hZ (W 50 rfl)) (mvT hZ (W 51 rfl)) (by decide) (backOf (W := 0) (rmlet l Z a0 G1 fm hG [] cz h0 n0 Z0 X00) hZ (W 51 rfl) (W 50 rfl) (by decide) (by decide)) (g := (mkF m 1 #[.val (.int cz)] [.int cz])) rfl (by rw [hml]; rfl) (argsL := [.int cz]) (rest := []) (lenOf pd__C_Z rfl) rfl (by show 2 * 0 + _ ≤ _; exact Nat.le_of_eq rfl) (hB d23_1) (fun _ _ => ⟨rfl, e0, (by decide : 0 + 0 ≤ _), (by decide : 0 + 0 ≤ _)⟩)
  dsimp only [Pt.U, Pt.locs, Pt.cells, Pt.slots] at X446 l446 y446 z446 st446 hQ446
  subst l446 y446 z446
  obtain ⟨rfl, N446q, eq446⟩ := hQ446
  have N446 := Fr.app N0 N446q
  obtain ⟨fs, hr, hrun, hended, hW, hsame⟩ := X446.leave (v := some (.int 1)) (fun h => by rw [Bd.returns] at h; cases h)
  refine ⟨_, _, castTop (ef_method_3_code_I m cz) ?_, hrun, hended, _, _, rfl, ?_, ⟨_, rfl⟩, hW, hsame.mono (own_ble rfl) (own_ble rfl)⟩
  · show Steps _ _ _ (s₁.setTop (mkF m 0 #[.val (.int cz)] [])) _
    refine XS.iloadN X0.here hx rfl (hB d23_0) rfl ?_
    refine st446 _ ?_
    show Steps _ _ _ (T446.setTop (mkF m 4 #[.val (.int cz)] [(.int (own_letter cz))])) _
    refine XS.ifYes X446.here hx rfl (pc0 := 4) (pc' := 9) rfl (hB d23_4) rfl ((if0 _ _).trans (teq (h0_ : (own_letter cz) = (0 : Int32))).1) (by decide) (by decide) ?_
    refine XS.iloadN X446.here hx rfl (hB d23_9) rfl ?_
    refine XS.bipush X446.here hx rfl (hB d23_10) ?_
    refine XS.icmpYes X446.here hx rfl (pc0 := 12) (pc' := 23) rfl (hB d23_12) rfl (tlt (h1 : cz < (48 : Int32))).1 (by decide) (by decide) ?_
    refine XS.iloadN X446.here hx rfl (hB d23_23) rfl ?_
    refine XS.bipush X446.here hx rfl (hB d23_24) ?_
    refine XS.icmpNo X446.here hx rfl (hB d23_26) rfl (teq (h3 : cz = (95 : Int32))).2 ?_
    refine XS.iconst X446.here hx rfl (hB d23_29) ?_
    refine XS.goto X446.here hx rfl (pc0 := 30) (pc' := 34) rfl (hB d23_30) (by decide) (by decide) ?_
    exact retN X446 hx (t := .boolean) Bd.returns (by simp) (hB d23_34) hr
  · show Qwch Z G1 fm cz h0 n0 _ T446.heap _
    rw [eq446]
    exact ⟨(by rw [own_word, if_pos h0_, own_digit, if_pos h1, if_pos rfl, if_pos h3]), N446, rfl⟩
theorem rmwch_c (l : Launch) (Z : State) (a0 : Array Value) (G1 : Int32) (fm : Value) (hG : Glob Z a0 G1 fm) (ws : List Jvm.Cond) (cz : Int32) (h0 : Heap) (n0 : Nat) (Z0 : n0 ≤ h0.size) (X00 : Old Z n0 h0) (h0_ : own_letter cz = (0 : Int32)) (h1 : ¬ cz < (48 : Int32)) (h2 : (57 : Int32) < cz) (h3 : ¬ cz = (95 : Int32)) :
    Met l Z h0 y23 method_3_code 1 (some .boolean) ws (Room.mk 1 0 0 12) #[.int cz] (Qwch Z G1 fm cz h0 n0) := by
  obtain ⟨hw, O_cs, P_cs, O_as, O_hi, O_lo, O_fm, R_fm⟩ := id hG
  have W := @own_W _ _ hw
  refine own_go "com/example/label_lattice/labellattice/NamesIsValidPinLaw" rfl (plainFor_of_name pn_com_example_label_lattice_labellattice_NamesIsValidPinLaw) ?_
  intro p e s m below meth c s₁ Bd hx hby hml hown hnm X0 e0 hZ
  have hB := @hb _ _ hby
  have N0 := Fr.nil n0
  -- pc 1: com/example/label_lattice/labellattice/NamesIsValidPinLaw.letter
  obtain ⟨_, _, ⟨T447, L447, k447, n447⟩, -, X447, ⟨Lc447, hQ447, l447, y447, z447⟩, st447⟩ := Jvm.LawKit.callS X0 hx (y := y21) hown (mvT hZ (W 48 rfl)) (mvT hZ (W 49 rfl)) (mvT hZ (W 50 rfl)) (mvT hZ (W 51 rfl)) (by decide) (backOf (W := 0) (rmlet l Z a0 G1 fm hG [] cz h0 n0 Z0 X00) hZ (W 51 rfl) (W 50 rfl) (by decide) (by decide)) (g := (mkF m 1 #[.val (.int cz)] [.int cz])) rfl (by rw [hml]; rfl) (argsL := [.int cz]) (rest := []) (lenOf pd__C_Z rfl) rfl (by show 2 * 0 + _ ≤ _; exact Nat.le_of_eq rfl) (hB d23_1) (fun _ _ => ⟨rfl, e0, (by decide : 0 + 0 ≤ _), (by decide : 0 + 0 ≤ _)⟩)
  dsimp only [Pt.U, Pt.locs, Pt.cells, Pt.slots] at X447 l447 y447 z447 st447 hQ447
  subst l447 y447 z447
  obtain ⟨rfl, N447q, eq447⟩ := hQ447
  have N447 := Fr.app N0 N447q
  obtain ⟨fs, hr, hrun, hended, hW, hsame⟩ := X447.leave (v := some (.int 0)) (fun h => by rw [Bd.returns] at h; cases h)
  refine ⟨_, _, castTop (ef_method_3_code_I m cz) ?_, hrun, hended, _, _, rfl, ?_, ⟨_, rfl⟩, hW, hsame.mono (own_ble rfl) (own_ble rfl)⟩
  · show Steps _ _ _ (s₁.setTop (mkF m 0 #[.val (.int cz)] [])) _
    refine XS.iloadN X0.here hx rfl (hB d23_0) rfl ?_
    refine st447 _ ?_
    show Steps _ _ _ (T447.setTop (mkF m 4 #[.val (.int cz)] [(.int (own_letter cz))])) _
    refine XS.ifYes X447.here hx rfl (pc0 := 4) (pc' := 9) rfl (hB d23_4) rfl ((if0 _ _).trans (teq (h0_ : (own_letter cz) = (0 : Int32))).1) (by decide) (by decide) ?_
    refine XS.iloadN X447.here hx rfl (hB d23_9) rfl ?_
    refine XS.bipush X447.here hx rfl (hB d23_10) ?_
    refine XS.icmpNo X447.here hx rfl (hB d23_12) rfl (flt (h1 : ¬ (cz < (48 : Int32)))).1 ?_
    refine XS.iloadN X447.here hx rfl (hB d23_15) rfl ?_
    refine XS.bipush X447.here hx rfl (hB d23_16) ?_
    refine XS.icmpYes X447.here hx rfl (pc0 := 18) (pc' := 23) rfl (hB d23_18) rfl (tlt (h2 : (57 : Int32) < cz)).2.2.1 (by decide) (by decide) ?_
    refine XS.iloadN X447.here hx rfl (hB d23_23) rfl ?_
    refine XS.bipush X447.here hx rfl (hB d23_24) ?_
    refine XS.icmpYes X447.here hx rfl (pc0 := 26) (pc' := 33) rfl (hB d23_26) rfl (feq (h3 : ¬ (cz = (95 : Int32)))).2 (by decide) (by decide) ?_
    refine XS.iconst X447.here hx rfl (hB d23_33) ?_
    exact retN X447 hx (t := .boolean) Bd.returns (by simp) (hB d23_34) hr
  · show Qwch Z G1 fm cz h0 n0 _ T447.heap _
    rw [eq447]
    exact ⟨(by rw [own_word, if_pos h0_, own_digit, if_neg h1, if_pos h2, if_pos rfl, if_neg h3]), N447, rfl⟩
theorem rmwch_d (l : Launch) (Z : State) (a0 : Array Value) (G1 : Int32) (fm : Value) (hG : Glob Z a0 G1 fm) (ws : List Jvm.Cond) (cz : Int32) (h0 : Heap) (n0 : Nat) (Z0 : n0 ≤ h0.size) (X00 : Old Z n0 h0) (h0_ : own_letter cz = (0 : Int32)) (h1 : ¬ cz < (48 : Int32)) (h2 : (57 : Int32) < cz) (h3 : cz = (95 : Int32)) :
    Met l Z h0 y23 method_3_code 1 (some .boolean) ws (Room.mk 1 0 0 12) #[.int cz] (Qwch Z G1 fm cz h0 n0) := by
  obtain ⟨hw, O_cs, P_cs, O_as, O_hi, O_lo, O_fm, R_fm⟩ := id hG
  have W := @own_W _ _ hw
  refine own_go "com/example/label_lattice/labellattice/NamesIsValidPinLaw" rfl (plainFor_of_name pn_com_example_label_lattice_labellattice_NamesIsValidPinLaw) ?_
  intro p e s m below meth c s₁ Bd hx hby hml hown hnm X0 e0 hZ
  have hB := @hb _ _ hby
  have N0 := Fr.nil n0
  -- pc 1: com/example/label_lattice/labellattice/NamesIsValidPinLaw.letter
  obtain ⟨_, _, ⟨T448, L448, k448, n448⟩, -, X448, ⟨Lc448, hQ448, l448, y448, z448⟩, st448⟩ := Jvm.LawKit.callS X0 hx (y := y21) hown (mvT hZ (W 48 rfl)) (mvT hZ (W 49 rfl)) (mvT hZ (W 50 rfl)) (mvT hZ (W 51 rfl)) (by decide) (backOf (W := 0) (rmlet l Z a0 G1 fm hG [] cz h0 n0 Z0 X00) hZ (W 51 rfl) (W 50 rfl) (by decide) (by decide)) (g := (mkF m 1 #[.val (.int cz)] [.int cz])) rfl (by rw [hml]; rfl) (argsL := [.int cz]) (rest := []) (lenOf pd__C_Z rfl) rfl (by show 2 * 0 + _ ≤ _; exact Nat.le_of_eq rfl) (hB d23_1) (fun _ _ => ⟨rfl, e0, (by decide : 0 + 0 ≤ _), (by decide : 0 + 0 ≤ _)⟩)
  dsimp only [Pt.U, Pt.locs, Pt.cells, Pt.slots] at X448 l448 y448 z448 st448 hQ448
  subst l448 y448 z448
  obtain ⟨rfl, N448q, eq448⟩ := hQ448
  have N448 := Fr.app N0 N448q
  obtain ⟨fs, hr, hrun, hended, hW, hsame⟩ := X448.leave (v := some (.int 1)) (fun h => by rw [Bd.returns] at h; cases h)
  refine ⟨_, _, castTop (ef_method_3_code_I m cz) ?_, hrun, hended, _, _, rfl, ?_, ⟨_, rfl⟩, hW, hsame.mono (own_ble rfl) (own_ble rfl)⟩
  · show Steps _ _ _ (s₁.setTop (mkF m 0 #[.val (.int cz)] [])) _
    refine XS.iloadN X0.here hx rfl (hB d23_0) rfl ?_
    refine st448 _ ?_
    show Steps _ _ _ (T448.setTop (mkF m 4 #[.val (.int cz)] [(.int (own_letter cz))])) _
    refine XS.ifYes X448.here hx rfl (pc0 := 4) (pc' := 9) rfl (hB d23_4) rfl ((if0 _ _).trans (teq (h0_ : (own_letter cz) = (0 : Int32))).1) (by decide) (by decide) ?_
    refine XS.iloadN X448.here hx rfl (hB d23_9) rfl ?_
    refine XS.bipush X448.here hx rfl (hB d23_10) ?_
    refine XS.icmpNo X448.here hx rfl (hB d23_12) rfl (flt (h1 : ¬ (cz < (48 : Int32)))).1 ?_
    refine XS.iloadN X448.here hx rfl (hB d23_15) rfl ?_
    refine XS.bipush X448.here hx rfl (hB d23_16) ?_
    refine XS.icmpYes X448.here hx rfl (pc0 := 18) (pc' := 23) rfl (hB d23_18) rfl (tlt (h2 : (57 : Int32) < cz)).2.2.1 (by decide) (by decide) ?_
    refine XS.iloadN X448.here hx rfl (hB d23_23) rfl ?_
    refine XS.bipush X448.here hx rfl (hB d23_24) ?_
    refine XS.icmpNo X448.here hx rfl (hB d23_26) rfl (teq (h3 : cz = (95 : Int32))).2 ?_
    refine XS.iconst X448.here hx rfl (hB d23_29) ?_
    refine XS.goto X448.here hx rfl (pc0 := 30) (pc' := 34) rfl (hB d23_30) (by decide) (by decide) ?_
    exact retN X448 hx (t := .boolean) Bd.returns (by simp) (hB d23_34) hr
  · show Qwch Z G1 fm cz h0 n0 _ T448.heap _
    rw [eq448]
    exact ⟨(by rw [own_word, if_pos h0_, own_digit, if_neg h1, if_pos h2, if_pos rfl, if_pos h3]), N448, rfl⟩
theorem rmwch_D (l : Launch) (Z : State) (a0 : Array Value) (G1 : Int32) (fm : Value) (hG : Glob Z a0 G1 fm) (ws : List Jvm.Cond) (cz : Int32) (h0 : Heap) (n0 : Nat) (Z0 : n0 ≤ h0.size) (X00 : Old Z n0 h0) (h0_ : own_letter cz = (0 : Int32)) (h1 : ¬ cz < (48 : Int32)) (h2 : ¬ (57 : Int32) < cz) :
    Met l Z h0 y23 method_3_code 1 (some .boolean) ws (Room.mk 1 0 0 12) #[.int cz] (Qwch Z G1 fm cz h0 n0) := by
  obtain ⟨hw, O_cs, P_cs, O_as, O_hi, O_lo, O_fm, R_fm⟩ := id hG
  have W := @own_W _ _ hw
  refine own_go "com/example/label_lattice/labellattice/NamesIsValidPinLaw" rfl (plainFor_of_name pn_com_example_label_lattice_labellattice_NamesIsValidPinLaw) ?_
  intro p e s m below meth c s₁ Bd hx hby hml hown hnm X0 e0 hZ
  have hB := @hb _ _ hby
  have N0 := Fr.nil n0
  -- pc 1: com/example/label_lattice/labellattice/NamesIsValidPinLaw.letter
  obtain ⟨_, _, ⟨T449, L449, k449, n449⟩, -, X449, ⟨Lc449, hQ449, l449, y449, z449⟩, st449⟩ := Jvm.LawKit.callS X0 hx (y := y21) hown (mvT hZ (W 48 rfl)) (mvT hZ (W 49 rfl)) (mvT hZ (W 50 rfl)) (mvT hZ (W 51 rfl)) (by decide) (backOf (W := 0) (rmlet l Z a0 G1 fm hG [] cz h0 n0 Z0 X00) hZ (W 51 rfl) (W 50 rfl) (by decide) (by decide)) (g := (mkF m 1 #[.val (.int cz)] [.int cz])) rfl (by rw [hml]; rfl) (argsL := [.int cz]) (rest := []) (lenOf pd__C_Z rfl) rfl (by show 2 * 0 + _ ≤ _; exact Nat.le_of_eq rfl) (hB d23_1) (fun _ _ => ⟨rfl, e0, (by decide : 0 + 0 ≤ _), (by decide : 0 + 0 ≤ _)⟩)
  dsimp only [Pt.U, Pt.locs, Pt.cells, Pt.slots] at X449 l449 y449 z449 st449 hQ449
  subst l449 y449 z449
  obtain ⟨rfl, N449q, eq449⟩ := hQ449
  have N449 := Fr.app N0 N449q
  obtain ⟨fs, hr, hrun, hended, hW, hsame⟩ := X449.leave (v := some (.int 1)) (fun h => by rw [Bd.returns] at h; cases h)
  refine ⟨_, _, castTop (ef_method_3_code_I m cz) ?_, hrun, hended, _, _, rfl, ?_, ⟨_, rfl⟩, hW, hsame.mono (own_ble rfl) (own_ble rfl)⟩
  · show Steps _ _ _ (s₁.setTop (mkF m 0 #[.val (.int cz)] [])) _
    refine XS.iloadN X0.here hx rfl (hB d23_0) rfl ?_
    refine st449 _ ?_
    show Steps _ _ _ (T449.setTop (mkF m 4 #[.val (.int cz)] [(.int (own_letter cz))])) _
    refine XS.ifYes X449.here hx rfl (pc0 := 4) (pc' := 9) rfl (hB d23_4) rfl ((if0 _ _).trans (teq (h0_ : (own_letter cz) = (0 : Int32))).1) (by decide) (by decide) ?_
    refine XS.iloadN X449.here hx rfl (hB d23_9) rfl ?_
    refine XS.bipush X449.here hx rfl (hB d23_10) ?_
    refine XS.icmpNo X449.here hx rfl (hB d23_12) rfl (flt (h1 : ¬ (cz < (48 : Int32)))).1 ?_
    refine XS.iloadN X449.here hx rfl (hB d23_15) rfl ?_
    refine XS.bipush X449.here hx rfl (hB d23_16) ?_
    refine XS.icmpNo X449.here hx rfl (hB d23_18) rfl (flt (h2 : ¬ ((57 : Int32) < cz))).2.2.1 ?_
    refine XS.iconst X449.here hx rfl (hB d23_21) ?_
    exact retN X449 hx (t := .boolean) Bd.returns (by simp) (hB d23_22) hr
  · show Qwch Z G1 fm cz h0 n0 _ T449.heap _
    rw [eq449]
    exact ⟨(by rw [own_word, if_pos h0_, own_digit, if_neg h1, if_neg h2, if_neg (by decide)]), N449, rfl⟩
theorem rmwch (l : Launch) (Z : State) (a0 : Array Value) (G1 : Int32) (fm : Value) (hG : Glob Z a0 G1 fm) (ws : List Jvm.Cond) (cz : Int32) (h0 : Heap) (n0 : Nat) (Z0 : n0 ≤ h0.size) (X00 : Old Z n0 h0) :
    Met l Z h0 y23 method_3_code 1 (some .boolean) ws (Room.mk 1 0 0 12) #[.int cz] (Qwch Z G1 fm cz h0 n0) := by
  by_cases h0_ : own_letter cz = (0 : Int32)
  · by_cases h1 : cz < (48 : Int32)
    · by_cases h3 : cz = (95 : Int32)
      · exact rmwch_b l Z a0 G1 fm hG ws cz h0 n0 Z0 X00 h0_ h1 h3
      · exact rmwch_a l Z a0 G1 fm hG ws cz h0 n0 Z0 X00 h0_ h1 h3
    · by_cases h2 : (57 : Int32) < cz
      · by_cases h3 : cz = (95 : Int32)
        · exact rmwch_d l Z a0 G1 fm hG ws cz h0 n0 Z0 X00 h0_ h1 h2 h3
        · exact rmwch_c l Z a0 G1 fm hG ws cz h0 n0 Z0 X00 h0_ h1 h2 h3
      · exact rmwch_D l Z a0 G1 fm hG ws cz h0 n0 Z0 X00 h0_ h1 h2
  · exact rmwch_L l Z a0 G1 fm hG ws cz h0 n0 Z0 X00 h0_
theorem d24_30 : decode prog_27_method_2_code 30 = .ok (.iload_n 2, 1) := by decide +kernel
theorem d24_31 : decode prog_27_method_2_code 31 = .ok (.iload_n 1, 1) := by decide +kernel
theorem d24_32 : decode prog_27_method_2_code 32 = .ok (.if_icmp .ge 37, 3) := by decide +kernel
theorem d24_35 : decode prog_27_method_2_code 35 = .ok (.aload_n 0, 1) := by decide +kernel
theorem d24_36 : decode prog_27_method_2_code 36 = .ok (.iload_n 2, 1) := by decide +kernel
theorem d24_37 : decode prog_27_method_2_code 37 = .ok (.invokevirtual 15, 3) := by decide +kernel
theorem pd__I_C : parseMethodDescriptor "(I)C" = some ⟨[.int], some .char⟩ := by decide +kernel
theorem d24_40 : decode prog_27_method_2_code 40 = .ok (.istore_n 3, 1) := by decide +kernel
theorem d24_41 : decode prog_27_method_2_code 41 = .ok (.iload_n 3, 1) := by decide +kernel
theorem d24_42 : decode prog_27_method_2_code 42 = .ok (.invokestatic 19, 3) := by decide +kernel
theorem d24_45 : decode prog_27_method_2_code 45 = .ok (.ifCond .ne 18, 3) := by decide +kernel
theorem d24_63 : decode prog_27_method_2_code 63 = .ok (.iinc 2 1, 3) := by decide +kernel
theorem d24_66 : decode prog_27_method_2_code 66 = .ok (.goto (-36), 3) := by decide +kernel
theorem d24_48 : decode prog_27_method_2_code 48 = .ok (.iload_n 3, 1) := by decide +kernel
theorem d24_49 : decode prog_27_method_2_code 49 = .ok (.invokestatic 23, 3) := by decide +kernel
theorem d24_52 : decode prog_27_method_2_code 52 = .ok (.ifCond .ne 11, 3) := by decide +kernel
theorem d24_55 : decode prog_27_method_2_code 55 = .ok (.iload_n 3, 1) := by decide +kernel
theorem d24_56 : decode prog_27_method_2_code 56 = .ok (.bipush 95, 2) := by decide +kernel
theorem d24_58 : decode prog_27_method_2_code 58 = .ok (.if_icmp .eq 5, 3) := by decide +kernel
theorem d24_0 : decode prog_27_method_2_code 0 = .ok (.aload_n 0, 1) := by decide +kernel
theorem d24_1 : decode prog_27_method_2_code 1 = .ok (.invokevirtual 7, 3) := by decide +kernel
theorem pd___I : parseMethodDescriptor "()I" = some ⟨[], some .int⟩ := by decide +kernel
theorem d24_4 : decode prog_27_method_2_code 4 = .ok (.istore_n 1, 1) := by decide +kernel
theorem d24_5 : decode prog_27_method_2_code 5 = .ok (.iload_n 1, 1) := by decide +kernel
theorem d24_6 : decode prog_27_method_2_code 6 = .ok (.ifCond .eq 20, 3) := by decide +kernel
theorem d24_26 : decode prog_27_method_2_code 26 = .ok (.iconst 0, 1) := by decide +kernel
theorem d24_27 : decode prog_27_method_2_code 27 = .ok (.ireturn, 1) := by decide +kernel
theorem d24_9 : decode prog_27_method_2_code 9 = .ok (.iload_n 1, 1) := by decide +kernel
theorem d24_10 : decode prog_27_method_2_code 10 = .ok (.bipush 64, 2) := by decide +kernel
theorem d24_12 : decode prog_27_method_2_code 12 = .ok (.if_icmp .gt 14, 3) := by decide +kernel
theorem d24_15 : decode prog_27_method_2_code 15 = .ok (.aload_n 0, 1) := by decide +kernel
theorem d24_16 : decode prog_27_method_2_code 16 = .ok (.iconst 0, 1) := by decide +kernel
theorem d24_17 : decode prog_27_method_2_code 17 = .ok (.invokevirtual 15, 3) := by decide +kernel
theorem d24_20 : decode prog_27_method_2_code 20 = .ok (.invokestatic 19, 3) := by decide +kernel
theorem d24_23 : decode prog_27_method_2_code 23 = .ok (.ifCond .ne 5, 3) := by decide +kernel
theorem d24_28 : decode prog_27_method_2_code 28 = .ok (.iconst 1, 1) := by decide +kernel
theorem d24_29 : decode prog_27_method_2_code 29 = .ok (.istore_n 2, 1) := by decide +kernel
theorem d24_61 : decode prog_27_method_2_code 61 = .ok (.iconst 0, 1) := by decide +kernel
theorem d24_62 : decode prog_27_method_2_code 62 = .ok (.ireturn, 1) := by decide +kernel
theorem d24_69 : decode prog_27_method_2_code 69 = .ok (.iconst 1, 1) := by decide +kernel
theorem d24_70 : decode prog_27_method_2_code 70 = .ok (.ireturn, 1) := by decide +kernel
def Qisv (Z : State) (G1 : Int32) (fm : Value) (a1 : Addr) (b : Addr) (kb : ClassId) (cd : Int32) (z : Int32) (vs : List Value) (cs : List Int32) (nn : Int32) (h0 : Heap) (n0 : Nat) (v : Option Value) (h : Heap) (L : List Loc) : Prop := v = some (.int (own_valid cs)) ∧ Fr n0 L ∧ Keep h0 h []
theorem sgtn1_l {p : Program} {l : Launch} {e : Env} {s : State} {m : MethodId} {args : Array Value} {below : List Frame} {meth : Method} {c : Code} {T0 : State} {locs : List Loc} (Z : State) (a0 : Array Value) (G1 : Int32) (fm : Value) (hG : Glob Z a0 G1 fm) (a1 : Addr) (b : Addr) (kb : ClassId) (cd : Int32) (z : Int32) (vs : List Value) (cs : List Int32) (nn : Int32) (dz : Int32) (h0 : Heap) (n0 : Nat) (Z0 : n0 ≤ h0.size) (X00 : Old Z n0 h0) (E_a1 : Exa Z h0 a1 "java/lang/String") (F_coder_a1 : Fld Z h0 a1 "java/lang/String" "coder" "B" (.int cd)) (F_value_a1 : Fld Z h0 a1 "java/lang/String" "value" "[B" (.ref b)) (V_b : Arv Z h0 b kb .byte z vs (.int 0)) (hs : own_str cd z vs cs) (hn : cs.length < 5) (hu : ∀ c ∈ cs, own_u16 c) (en : nn = Int32.ofNat cs.length) (hlt : (1 : Int32) < nn) (gdz : cs[1]? = some dz) (hwz : ¬ own_word dz = 0) (hc45 : ¬ ((own_letter dz) = (0 : Int32))) (X0 : Stand p l e (Room.mk 5 0 0 66) s m args below meth c T0 locs 0 0) (hx : p.tables.exec = Jvm.exec) (hZ : Z.Warmed39 s.vm) (hby : c.code = prog_27_method_2_code) (hml : c.maxLocals = 4) (hown : s.vm.findClass "com/example/label_lattice/labellattice/Names" = some m.cls) (e0 : T0.heap = h0) (N0 : Fr n0 locs) :
    ∃ (T' : State) (L' : List Loc), Stand p l e (Room.mk 5 0 0 66) s m args below meth c T' L' 0 0 ∧ Fr n0 L' ∧ Keep h0 T'.heap [] ∧ ∀ target, Steps p.tables e below (T'.setTop (mkF m 30 #[.val (.ref a1), .val (.int nn), .val (.int 2), .val (.int dz)] [])) target → Steps p.tables e below (T0.setTop (mkF m 30 #[.val (.ref a1), .val (.int nn), .val (.int 1), .unset] [])) target := by
  obtain ⟨hw, O_cs, P_cs, O_as, O_hi, O_lo, O_fm, R_fm⟩ := id hG
  have W := @own_W _ _ hw
  have hB := @hb _ _ hby
  obtain ⟨cq450, kq450, q450a, q450b, q450c⟩ := isOf hZ e0 E_a1
  -- pc 37: java/lang/String.charAt
  obtain ⟨_, _, ⟨T450, L450, k450, n450⟩, -, X450, ⟨Lc450, hQ450, l450, y450, z450⟩, st450⟩ := X0.virtualBack hx (y := y11) (z := y11) hown (mvT hZ (W 52 rfl)) (mvT hZ (W 53 rfl)) (notFace_of_selects (args := #[]) (mvT hZ (W 55 rfl))) (mvT hZ (W 55 rfl)) (mvT hZ (W 54 rfl)) (by decide) (backOf (W := 0) (rmsca l Z a0 G1 fm hG [] a1 b kb cd z vs (1 : Int32) cs 1 dz h0 n0 Z0 X00 E_a1 F_coder_a1 F_value_a1 V_b hs hn hu rfl gdz) hZ (W 56 rfl) (W 4 rfl) (by decide) (by decide)) q450a q450c (g := (mkF m 37 #[.val (.ref a1), .val (.int nn), .val (.int 1), .unset] [.int 1, .ref a1])) rfl (by rw [hml]; rfl) (Steps.refl _) (argsL := [.int 1]) (rest := []) (lenOf pd__I_C rfl) rfl (by show 2 * 0 + _ ≤ _; exact Nat.le_of_eq rfl) (hB d24_37) (fun _ _ => ⟨rfl, e0, (by decide : 0 + 0 ≤ _), (by decide : 0 + 0 ≤ _)⟩)
  dsimp only [Pt.U, Pt.locs, Pt.cells, Pt.slots] at X450 l450 y450 z450 st450 hQ450
  subst l450 y450 z450
  obtain ⟨rfl, N450q, eq450⟩ := hQ450
  have N450 := Fr.app N0 N450q
  -- pc 42: com/example/label_lattice/labellattice/Names.isAsciiLetter
  obtain ⟨_, _, ⟨T451, L451, k451, n451⟩, -, X451, ⟨Lc451, hQ451, l451, y451, z451⟩, st451⟩ := Jvm.LawKit.callS X450 hx (y := y20) hown (mvT hZ (W 74 rfl)) (mvT hZ (W 75 rfl)) (mvT hZ (W 25 rfl)) (mvT hZ (W 76 rfl)) (by decide) (backOf (W := 0) (rmial l Z a0 G1 fm hG [] dz h0 n0 Z0 X00) hZ (W 76 rfl) (W 25 rfl) (by decide) (by decide)) (g := (mkF m 42 #[.val (.ref a1), .val (.int nn), .val (.int 1), .val (.int dz)] [.int dz])) rfl (by rw [hml]; rfl) (argsL := [.int dz]) (rest := []) (lenOf pd__C_Z rfl) rfl (by show 2 * 0 + _ ≤ _; exact Nat.le_of_eq rfl) (hB d24_42) (fun _ _ => ⟨rfl, eq450, (by decide : 0 + 0 ≤ _), (by decide : 0 + 0 ≤ _)⟩)
  dsimp only [Pt.U, Pt.locs, Pt.cells, Pt.slots] at X451 l451 y451 z451 st451 hQ451
  subst l451 y451 z451
  obtain ⟨rfl, N451q, eq451⟩ := hQ451
  have N451 := Fr.app N450 N451q
  refine ⟨T451, _, X451, N451, ?_⟩
  rw [eq451]
  refine ⟨(Keep.refl h0 []), fun target kt => ?_⟩
  show Steps _ _ _ (T0.setTop (mkF m 30 #[.val (.ref a1), .val (.int nn), .val (.int 1), .unset] [])) _
  refine XS.iloadN X0.here hx rfl (hB d24_30) rfl ?_
  refine XS.iloadN X0.here hx rfl (hB d24_31) rfl ?_
  refine XS.icmpNo X0.here hx rfl (hB d24_32) rfl (tlt (hlt : (1 : Int32) < nn)).2.1 ?_
  refine XS.aloadN X0.here hx rfl (hB d24_35) rfl rfl ?_
  refine XS.iloadN X0.here hx rfl (hB d24_36) rfl ?_
  refine st450.trans ?_
  show Steps _ _ _ (T450.setTop (mkF m 40 #[.val (.ref a1), .val (.int nn), .val (.int 1), .unset] [.int dz])) _
  refine XS.istoreN X450.here hx rfl (hB d24_40) rfl (l' := #[.val (.ref a1), .val (.int nn), .val (.int 1), .val (.int dz)]) rfl ?_
  refine XS.iloadN X450.here hx rfl (hB d24_41) rfl ?_
  refine st451 _ ?_
  show Steps _ _ _ (T451.setTop (mkF m 45 #[.val (.ref a1), .val (.int nn), .val (.int 1), .val (.int dz)] [(.int (own_letter dz))])) _
  refine XS.ifYes X451.here hx rfl (pc0 := 45) (pc' := 63) rfl (hB d24_45) rfl ((if0 _ _).trans (feq (hc45 : ¬ ((own_letter dz) = (0 : Int32)))).2) (by decide) (by decide) ?_
  refine XS.iinc X451.here hx rfl (hB d24_63) rfl (l' := #[.val (.ref a1), .val (.int nn), .val (.int 2), .val (.int dz)]) rfl ?_
  refine XS.goto X451.here hx rfl (pc0 := 66) (pc' := 30) rfl (hB d24_66) (by decide) (by decide) ?_
  exact kt
theorem sgtn1_d {p : Program} {l : Launch} {e : Env} {s : State} {m : MethodId} {args : Array Value} {below : List Frame} {meth : Method} {c : Code} {T0 : State} {locs : List Loc} (Z : State) (a0 : Array Value) (G1 : Int32) (fm : Value) (hG : Glob Z a0 G1 fm) (a1 : Addr) (b : Addr) (kb : ClassId) (cd : Int32) (z : Int32) (vs : List Value) (cs : List Int32) (nn : Int32) (dz : Int32) (h0 : Heap) (n0 : Nat) (Z0 : n0 ≤ h0.size) (X00 : Old Z n0 h0) (E_a1 : Exa Z h0 a1 "java/lang/String") (F_coder_a1 : Fld Z h0 a1 "java/lang/String" "coder" "B" (.int cd)) (F_value_a1 : Fld Z h0 a1 "java/lang/String" "value" "[B" (.ref b)) (V_b : Arv Z h0 b kb .byte z vs (.int 0)) (hs : own_str cd z vs cs) (hn : cs.length < 5) (hu : ∀ c ∈ cs, own_u16 c) (en : nn = Int32.ofNat cs.length) (hlt : (1 : Int32) < nn) (gdz : cs[1]? = some dz) (hwz : ¬ own_word dz = 0) (hc45 : (own_letter dz) = (0 : Int32)) (hc52 : ¬ ((own_digit dz) = (0 : Int32))) (X0 : Stand p l e (Room.mk 5 0 0 66) s m args below meth c T0 locs 0 0) (hx : p.tables.exec = Jvm.exec) (hZ : Z.Warmed39 s.vm) (hby : c.code = prog_27_method_2_code) (hml : c.maxLocals = 4) (hown : s.vm.findClass "com/example/label_lattice/labellattice/Names" = some m.cls) (e0 : T0.heap = h0) (N0 : Fr n0 locs) :
    ∃ (T' : State) (L' : List Loc), Stand p l e (Room.mk 5 0 0 66) s m args below meth c T' L' 0 0 ∧ Fr n0 L' ∧ Keep h0 T'.heap [] ∧ ∀ target, Steps p.tables e below (T'.setTop (mkF m 30 #[.val (.ref a1), .val (.int nn), .val (.int 2), .val (.int dz)] [])) target → Steps p.tables e below (T0.setTop (mkF m 30 #[.val (.ref a1), .val (.int nn), .val (.int 1), .unset] [])) target := by
  obtain ⟨hw, O_cs, P_cs, O_as, O_hi, O_lo, O_fm, R_fm⟩ := id hG
  have W := @own_W _ _ hw
  have hB := @hb _ _ hby
  obtain ⟨cq452, kq452, q452a, q452b, q452c⟩ := isOf hZ e0 E_a1
  -- pc 37: java/lang/String.charAt
  obtain ⟨_, _, ⟨T452, L452, k452, n452⟩, -, X452, ⟨Lc452, hQ452, l452, y452, z452⟩, st452⟩ := X0.virtualBack hx (y := y11) (z := y11) hown (mvT hZ (W 52 rfl)) (mvT hZ (W 53 rfl)) (notFace_of_selects (args := #[]) (mvT hZ (W 55 rfl))) (mvT hZ (W 55 rfl)) (mvT hZ (W 54 rfl)) (by decide) (backOf (W := 0) (rmsca l Z a0 G1 fm hG [] a1 b kb cd z vs (1 : Int32) cs 1 dz h0 n0 Z0 X00 E_a1 F_coder_a1 F_value_a1 V_b hs hn hu rfl gdz) hZ (W 56 rfl) (W 4 rfl) (by decide) (by decide)) q452a q452c (g := (mkF m 37 #[.val (.ref a1), .val (.int nn), .val (.int 1), .unset] [.int 1, .ref a1])) rfl (by rw [hml]; rfl) (Steps.refl _) (argsL := [.int 1]) (rest := []) (lenOf pd__I_C rfl) rfl (by show 2 * 0 + _ ≤ _; exact Nat.le_of_eq rfl) (hB d24_37) (fun _ _ => ⟨rfl, e0, (by decide : 0 + 0 ≤ _), (by decide : 0 + 0 ≤ _)⟩)
  dsimp only [Pt.U, Pt.locs, Pt.cells, Pt.slots] at X452 l452 y452 z452 st452 hQ452
  subst l452 y452 z452
  obtain ⟨rfl, N452q, eq452⟩ := hQ452
  have N452 := Fr.app N0 N452q
  -- pc 42: com/example/label_lattice/labellattice/Names.isAsciiLetter
  obtain ⟨_, _, ⟨T453, L453, k453, n453⟩, -, X453, ⟨Lc453, hQ453, l453, y453, z453⟩, st453⟩ := Jvm.LawKit.callS X452 hx (y := y20) hown (mvT hZ (W 74 rfl)) (mvT hZ (W 75 rfl)) (mvT hZ (W 25 rfl)) (mvT hZ (W 76 rfl)) (by decide) (backOf (W := 0) (rmial l Z a0 G1 fm hG [] dz h0 n0 Z0 X00) hZ (W 76 rfl) (W 25 rfl) (by decide) (by decide)) (g := (mkF m 42 #[.val (.ref a1), .val (.int nn), .val (.int 1), .val (.int dz)] [.int dz])) rfl (by rw [hml]; rfl) (argsL := [.int dz]) (rest := []) (lenOf pd__C_Z rfl) rfl (by show 2 * 0 + _ ≤ _; exact Nat.le_of_eq rfl) (hB d24_42) (fun _ _ => ⟨rfl, eq452, (by decide : 0 + 0 ≤ _), (by decide : 0 + 0 ≤ _)⟩)
  dsimp only [Pt.U, Pt.locs, Pt.cells, Pt.slots] at X453 l453 y453 z453 st453 hQ453
  subst l453 y453 z453
  obtain ⟨rfl, N453q, eq453⟩ := hQ453
  have N453 := Fr.app N452 N453q
  -- pc 49: com/example/label_lattice/labellattice/Names.isAsciiDigit
  obtain ⟨_, _, ⟨T454, L454, k454, n454⟩, -, X454, ⟨Lc454, hQ454, l454, y454, z454⟩, st454⟩ := Jvm.LawKit.callS X453 hx (y := y22) hown (mvT hZ (W 80 rfl)) (mvT hZ (W 81 rfl)) (mvT hZ (W 25 rfl)) (mvT hZ (W 82 rfl)) (by decide) (backOf (W := 0) (rmiad l Z a0 G1 fm hG [] dz h0 n0 Z0 X00) hZ (W 82 rfl) (W 25 rfl) (by decide) (by decide)) (g := (mkF m 49 #[.val (.ref a1), .val (.int nn), .val (.int 1), .val (.int dz)] [.int dz])) rfl (by rw [hml]; rfl) (argsL := [.int dz]) (rest := []) (lenOf pd__C_Z rfl) rfl (by show 2 * 0 + _ ≤ _; exact Nat.le_of_eq rfl) (hB d24_49) (fun _ _ => ⟨rfl, eq453, (by decide : 0 + 0 ≤ _), (by decide : 0 + 0 ≤ _)⟩)
  dsimp only [Pt.U, Pt.locs, Pt.cells, Pt.slots] at X454 l454 y454 z454 st454 hQ454
  subst l454 y454 z454
  obtain ⟨rfl, N454q, eq454⟩ := hQ454
  have N454 := Fr.app N453 N454q
  refine ⟨T454, _, X454, N454, ?_⟩
  rw [eq454]
  refine ⟨(Keep.refl h0 []), fun target kt => ?_⟩
  show Steps _ _ _ (T0.setTop (mkF m 30 #[.val (.ref a1), .val (.int nn), .val (.int 1), .unset] [])) _
  refine XS.iloadN X0.here hx rfl (hB d24_30) rfl ?_
  refine XS.iloadN X0.here hx rfl (hB d24_31) rfl ?_
  refine XS.icmpNo X0.here hx rfl (hB d24_32) rfl (tlt (hlt : (1 : Int32) < nn)).2.1 ?_
  refine XS.aloadN X0.here hx rfl (hB d24_35) rfl rfl ?_
  refine XS.iloadN X0.here hx rfl (hB d24_36) rfl ?_
  refine st452.trans ?_
  show Steps _ _ _ (T452.setTop (mkF m 40 #[.val (.ref a1), .val (.int nn), .val (.int 1), .unset] [.int dz])) _
  refine XS.istoreN X452.here hx rfl (hB d24_40) rfl (l' := #[.val (.ref a1), .val (.int nn), .val (.int 1), .val (.int dz)]) rfl ?_
  refine XS.iloadN X452.here hx rfl (hB d24_41) rfl ?_
  refine st453 _ ?_
  show Steps _ _ _ (T453.setTop (mkF m 45 #[.val (.ref a1), .val (.int nn), .val (.int 1), .val (.int dz)] [(.int (own_letter dz))])) _
  refine XS.ifNo X453.here hx rfl (hB d24_45) rfl ((if0 _ _).trans (teq (hc45 : (own_letter dz) = (0 : Int32))).2) ?_
  refine XS.iloadN X453.here hx rfl (hB d24_48) rfl ?_
  refine st454 _ ?_
  show Steps _ _ _ (T454.setTop (mkF m 52 #[.val (.ref a1), .val (.int nn), .val (.int 1), .val (.int dz)] [(.int (own_digit dz))])) _
  refine XS.ifYes X454.here hx rfl (pc0 := 52) (pc' := 63) rfl (hB d24_52) rfl ((if0 _ _).trans (feq (hc52 : ¬ ((own_digit dz) = (0 : Int32)))).2) (by decide) (by decide) ?_
  refine XS.iinc X454.here hx rfl (hB d24_63) rfl (l' := #[.val (.ref a1), .val (.int nn), .val (.int 2), .val (.int dz)]) rfl ?_
  refine XS.goto X454.here hx rfl (pc0 := 66) (pc' := 30) rfl (hB d24_66) (by decide) (by decide) ?_
  exact kt
theorem sgtn1_u {p : Program} {l : Launch} {e : Env} {s : State} {m : MethodId} {args : Array Value} {below : List Frame} {meth : Method} {c : Code} {T0 : State} {locs : List Loc} (Z : State) (a0 : Array Value) (G1 : Int32) (fm : Value) (hG : Glob Z a0 G1 fm) (a1 : Addr) (b : Addr) (kb : ClassId) (cd : Int32) (z : Int32) (vs : List Value) (cs : List Int32) (nn : Int32) (dz : Int32) (h0 : Heap) (n0 : Nat) (Z0 : n0 ≤ h0.size) (X00 : Old Z n0 h0) (E_a1 : Exa Z h0 a1 "java/lang/String") (F_coder_a1 : Fld Z h0 a1 "java/lang/String" "coder" "B" (.int cd)) (F_value_a1 : Fld Z h0 a1 "java/lang/String" "value" "[B" (.ref b)) (V_b : Arv Z h0 b kb .byte z vs (.int 0)) (hs : own_str cd z vs cs) (hn : cs.length < 5) (hu : ∀ c ∈ cs, own_u16 c) (en : nn = Int32.ofNat cs.length) (hlt : (1 : Int32) < nn) (gdz : cs[1]? = some dz) (hwz : ¬ own_word dz = 0) (hc45 : (own_letter dz) = (0 : Int32)) (hc52 : (own_digit dz) = (0 : Int32)) (hc58 : dz = (95 : Int32)) (X0 : Stand p l e (Room.mk 5 0 0 66) s m args below meth c T0 locs 0 0) (hx : p.tables.exec = Jvm.exec) (hZ : Z.Warmed39 s.vm) (hby : c.code = prog_27_method_2_code) (hml : c.maxLocals = 4) (hown : s.vm.findClass "com/example/label_lattice/labellattice/Names" = some m.cls) (e0 : T0.heap = h0) (N0 : Fr n0 locs) :
    ∃ (T' : State) (L' : List Loc), Stand p l e (Room.mk 5 0 0 66) s m args below meth c T' L' 0 0 ∧ Fr n0 L' ∧ Keep h0 T'.heap [] ∧ ∀ target, Steps p.tables e below (T'.setTop (mkF m 30 #[.val (.ref a1), .val (.int nn), .val (.int 2), .val (.int dz)] [])) target → Steps p.tables e below (T0.setTop (mkF m 30 #[.val (.ref a1), .val (.int nn), .val (.int 1), .unset] [])) target := by
  obtain ⟨hw, O_cs, P_cs, O_as, O_hi, O_lo, O_fm, R_fm⟩ := id hG
  have W := @own_W _ _ hw
  have hB := @hb _ _ hby
  obtain ⟨cq455, kq455, q455a, q455b, q455c⟩ := isOf hZ e0 E_a1
  -- pc 37: java/lang/String.charAt
  obtain ⟨_, _, ⟨T455, L455, k455, n455⟩, -, X455, ⟨Lc455, hQ455, l455, y455, z455⟩, st455⟩ := X0.virtualBack hx (y := y11) (z := y11) hown (mvT hZ (W 52 rfl)) (mvT hZ (W 53 rfl)) (notFace_of_selects (args := #[]) (mvT hZ (W 55 rfl))) (mvT hZ (W 55 rfl)) (mvT hZ (W 54 rfl)) (by decide) (backOf (W := 0) (rmsca l Z a0 G1 fm hG [] a1 b kb cd z vs (1 : Int32) cs 1 dz h0 n0 Z0 X00 E_a1 F_coder_a1 F_value_a1 V_b hs hn hu rfl gdz) hZ (W 56 rfl) (W 4 rfl) (by decide) (by decide)) q455a q455c (g := (mkF m 37 #[.val (.ref a1), .val (.int nn), .val (.int 1), .unset] [.int 1, .ref a1])) rfl (by rw [hml]; rfl) (Steps.refl _) (argsL := [.int 1]) (rest := []) (lenOf pd__I_C rfl) rfl (by show 2 * 0 + _ ≤ _; exact Nat.le_of_eq rfl) (hB d24_37) (fun _ _ => ⟨rfl, e0, (by decide : 0 + 0 ≤ _), (by decide : 0 + 0 ≤ _)⟩)
  dsimp only [Pt.U, Pt.locs, Pt.cells, Pt.slots] at X455 l455 y455 z455 st455 hQ455
  subst l455 y455 z455
  obtain ⟨rfl, N455q, eq455⟩ := hQ455
  have N455 := Fr.app N0 N455q
  -- pc 42: com/example/label_lattice/labellattice/Names.isAsciiLetter
  obtain ⟨_, _, ⟨T456, L456, k456, n456⟩, -, X456, ⟨Lc456, hQ456, l456, y456, z456⟩, st456⟩ := Jvm.LawKit.callS X455 hx (y := y20) hown (mvT hZ (W 74 rfl)) (mvT hZ (W 75 rfl)) (mvT hZ (W 25 rfl)) (mvT hZ (W 76 rfl)) (by decide) (backOf (W := 0) (rmial l Z a0 G1 fm hG [] dz h0 n0 Z0 X00) hZ (W 76 rfl) (W 25 rfl) (by decide) (by decide)) (g := (mkF m 42 #[.val (.ref a1), .val (.int nn), .val (.int 1), .val (.int dz)] [.int dz])) rfl (by rw [hml]; rfl) (argsL := [.int dz]) (rest := []) (lenOf pd__C_Z rfl) rfl (by show 2 * 0 + _ ≤ _; exact Nat.le_of_eq rfl) (hB d24_42) (fun _ _ => ⟨rfl, eq455, (by decide : 0 + 0 ≤ _), (by decide : 0 + 0 ≤ _)⟩)
  dsimp only [Pt.U, Pt.locs, Pt.cells, Pt.slots] at X456 l456 y456 z456 st456 hQ456
  subst l456 y456 z456
  obtain ⟨rfl, N456q, eq456⟩ := hQ456
  have N456 := Fr.app N455 N456q
  -- pc 49: com/example/label_lattice/labellattice/Names.isAsciiDigit
  obtain ⟨_, _, ⟨T457, L457, k457, n457⟩, -, X457, ⟨Lc457, hQ457, l457, y457, z457⟩, st457⟩ := Jvm.LawKit.callS X456 hx (y := y22) hown (mvT hZ (W 80 rfl)) (mvT hZ (W 81 rfl)) (mvT hZ (W 25 rfl)) (mvT hZ (W 82 rfl)) (by decide) (backOf (W := 0) (rmiad l Z a0 G1 fm hG [] dz h0 n0 Z0 X00) hZ (W 82 rfl) (W 25 rfl) (by decide) (by decide)) (g := (mkF m 49 #[.val (.ref a1), .val (.int nn), .val (.int 1), .val (.int dz)] [.int dz])) rfl (by rw [hml]; rfl) (argsL := [.int dz]) (rest := []) (lenOf pd__C_Z rfl) rfl (by show 2 * 0 + _ ≤ _; exact Nat.le_of_eq rfl) (hB d24_49) (fun _ _ => ⟨rfl, eq456, (by decide : 0 + 0 ≤ _), (by decide : 0 + 0 ≤ _)⟩)
  dsimp only [Pt.U, Pt.locs, Pt.cells, Pt.slots] at X457 l457 y457 z457 st457 hQ457
  subst l457 y457 z457
  obtain ⟨rfl, N457q, eq457⟩ := hQ457
  have N457 := Fr.app N456 N457q
  refine ⟨T457, _, X457, N457, ?_⟩
  rw [eq457]
  refine ⟨(Keep.refl h0 []), fun target kt => ?_⟩
  show Steps _ _ _ (T0.setTop (mkF m 30 #[.val (.ref a1), .val (.int nn), .val (.int 1), .unset] [])) _
  refine XS.iloadN X0.here hx rfl (hB d24_30) rfl ?_
  refine XS.iloadN X0.here hx rfl (hB d24_31) rfl ?_
  refine XS.icmpNo X0.here hx rfl (hB d24_32) rfl (tlt (hlt : (1 : Int32) < nn)).2.1 ?_
  refine XS.aloadN X0.here hx rfl (hB d24_35) rfl rfl ?_
  refine XS.iloadN X0.here hx rfl (hB d24_36) rfl ?_
  refine st455.trans ?_
  show Steps _ _ _ (T455.setTop (mkF m 40 #[.val (.ref a1), .val (.int nn), .val (.int 1), .unset] [.int dz])) _
  refine XS.istoreN X455.here hx rfl (hB d24_40) rfl (l' := #[.val (.ref a1), .val (.int nn), .val (.int 1), .val (.int dz)]) rfl ?_
  refine XS.iloadN X455.here hx rfl (hB d24_41) rfl ?_
  refine st456 _ ?_
  show Steps _ _ _ (T456.setTop (mkF m 45 #[.val (.ref a1), .val (.int nn), .val (.int 1), .val (.int dz)] [(.int (own_letter dz))])) _
  refine XS.ifNo X456.here hx rfl (hB d24_45) rfl ((if0 _ _).trans (teq (hc45 : (own_letter dz) = (0 : Int32))).2) ?_
  refine XS.iloadN X456.here hx rfl (hB d24_48) rfl ?_
  refine st457 _ ?_
  show Steps _ _ _ (T457.setTop (mkF m 52 #[.val (.ref a1), .val (.int nn), .val (.int 1), .val (.int dz)] [(.int (own_digit dz))])) _
  refine XS.ifNo X457.here hx rfl (hB d24_52) rfl ((if0 _ _).trans (teq (hc52 : (own_digit dz) = (0 : Int32))).2) ?_
  refine XS.iloadN X457.here hx rfl (hB d24_55) rfl ?_
  refine XS.bipush X457.here hx rfl (hB d24_56) ?_
  refine XS.icmpYes X457.here hx rfl (pc0 := 58) (pc' := 63) rfl (hB d24_58) rfl (teq (hc58 : dz = (95 : Int32))).1 (by decide) (by decide) ?_
  refine XS.iinc X457.here hx rfl (hB d24_63) rfl (l' := #[.val (.ref a1), .val (.int nn), .val (.int 2), .val (.int dz)]) rfl ?_
  refine XS.goto X457.here hx rfl (pc0 := 66) (pc' := 30) rfl (hB d24_66) (by decide) (by decide) ?_
  exact kt
theorem sgtn1 {p : Program} {l : Launch} {e : Env} {s : State} {m : MethodId} {args : Array Value} {below : List Frame} {meth : Method} {c : Code} {T0 : State} {locs : List Loc} (Z : State) (a0 : Array Value) (G1 : Int32) (fm : Value) (hG : Glob Z a0 G1 fm) (a1 : Addr) (b : Addr) (kb : ClassId) (cd : Int32) (z : Int32) (vs : List Value) (cs : List Int32) (nn : Int32) (dz : Int32) (h0 : Heap) (n0 : Nat) (Z0 : n0 ≤ h0.size) (X00 : Old Z n0 h0) (E_a1 : Exa Z h0 a1 "java/lang/String") (F_coder_a1 : Fld Z h0 a1 "java/lang/String" "coder" "B" (.int cd)) (F_value_a1 : Fld Z h0 a1 "java/lang/String" "value" "[B" (.ref b)) (V_b : Arv Z h0 b kb .byte z vs (.int 0)) (hs : own_str cd z vs cs) (hn : cs.length < 5) (hu : ∀ c ∈ cs, own_u16 c) (en : nn = Int32.ofNat cs.length) (hlt : (1 : Int32) < nn) (gdz : cs[1]? = some dz) (hwz : ¬ own_word dz = 0) (X0 : Stand p l e (Room.mk 5 0 0 66) s m args below meth c T0 locs 0 0) (hx : p.tables.exec = Jvm.exec) (hZ : Z.Warmed39 s.vm) (hby : c.code = prog_27_method_2_code) (hml : c.maxLocals = 4) (hown : s.vm.findClass "com/example/label_lattice/labellattice/Names" = some m.cls) (e0 : T0.heap = h0) (N0 : Fr n0 locs) :
    ∃ (T' : State) (L' : List Loc), Stand p l e (Room.mk 5 0 0 66) s m args below meth c T' L' 0 0 ∧ Fr n0 L' ∧ Keep h0 T'.heap [] ∧ ∀ target, Steps p.tables e below (T'.setTop (mkF m 30 #[.val (.ref a1), .val (.int nn), .val (.int 2), .val (.int dz)] [])) target → Steps p.tables e below (T0.setTop (mkF m 30 #[.val (.ref a1), .val (.int nn), .val (.int 1), .unset] [])) target := by
  by_cases h1 : own_letter dz = (0 : Int32)
  · by_cases h2 : own_digit dz = (0 : Int32)
    · by_cases h3 : dz = (95 : Int32)
      · exact sgtn1_u Z a0 G1 fm hG a1 b kb cd z vs cs nn dz h0 n0 Z0 X00 E_a1 F_coder_a1 F_value_a1 V_b hs hn hu en hlt gdz hwz h1 h2 h3 X0 hx hZ hby hml hown e0 N0
      · exact absurd (by rw [own_word, if_pos h1, if_pos h2, if_neg h3]) hwz
    · exact sgtn1_d Z a0 G1 fm hG a1 b kb cd z vs cs nn dz h0 n0 Z0 X00 E_a1 F_coder_a1 F_value_a1 V_b hs hn hu en hlt gdz hwz h1 h2 X0 hx hZ hby hml hown e0 N0
  · exact sgtn1_l Z a0 G1 fm hG a1 b kb cd z vs cs nn dz h0 n0 Z0 X00 E_a1 F_coder_a1 F_value_a1 V_b hs hn hu en hlt gdz hwz h1 X0 hx hZ hby hml hown e0 N0
theorem sgtn2_l {p : Program} {l : Launch} {e : Env} {s : State} {m : MethodId} {args : Array Value} {below : List Frame} {meth : Method} {c : Code} {T0 : State} {locs : List Loc} (Z : State) (a0 : Array Value) (G1 : Int32) (fm : Value) (hG : Glob Z a0 G1 fm) (a1 : Addr) (b : Addr) (kb : ClassId) (cd : Int32) (z : Int32) (vs : List Value) (cs : List Int32) (nn : Int32) (dz : Int32) (dp : Int32) (h0 : Heap) (n0 : Nat) (Z0 : n0 ≤ h0.size) (X00 : Old Z n0 h0) (E_a1 : Exa Z h0 a1 "java/lang/String") (F_coder_a1 : Fld Z h0 a1 "java/lang/String" "coder" "B" (.int cd)) (F_value_a1 : Fld Z h0 a1 "java/lang/String" "value" "[B" (.ref b)) (V_b : Arv Z h0 b kb .byte z vs (.int 0)) (hs : own_str cd z vs cs) (hn : cs.length < 5) (hu : ∀ c ∈ cs, own_u16 c) (en : nn = Int32.ofNat cs.length) (hlt : (2 : Int32) < nn) (gdz : cs[2]? = some dz) (hwz : ¬ own_word dz = 0) (hc45 : ¬ ((own_letter dz) = (0 : Int32))) (X0 : Stand p l e (Room.mk 5 0 0 66) s m args below meth c T0 locs 0 0) (hx : p.tables.exec = Jvm.exec) (hZ : Z.Warmed39 s.vm) (hby : c.code = prog_27_method_2_code) (hml : c.maxLocals = 4) (hown : s.vm.findClass "com/example/label_lattice/labellattice/Names" = some m.cls) (e0 : T0.heap = h0) (N0 : Fr n0 locs) :
    ∃ (T' : State) (L' : List Loc), Stand p l e (Room.mk 5 0 0 66) s m args below meth c T' L' 0 0 ∧ Fr n0 L' ∧ Keep h0 T'.heap [] ∧ ∀ target, Steps p.tables e below (T'.setTop (mkF m 30 #[.val (.ref a1), .val (.int nn), .val (.int 3), .val (.int dz)] [])) target → Steps p.tables e below (T0.setTop (mkF m 30 #[.val (.ref a1), .val (.int nn), .val (.int 2), .val (.int dp)] [])) target := by
  obtain ⟨hw, O_cs, P_cs, O_as, O_hi, O_lo, O_fm, R_fm⟩ := id hG
  have W := @own_W _ _ hw
  have hB := @hb _ _ hby
  obtain ⟨cq458, kq458, q458a, q458b, q458c⟩ := isOf hZ e0 E_a1
  -- pc 37: java/lang/String.charAt
  obtain ⟨_, _, ⟨T458, L458, k458, n458⟩, -, X458, ⟨Lc458, hQ458, l458, y458, z458⟩, st458⟩ := X0.virtualBack hx (y := y11) (z := y11) hown (mvT hZ (W 52 rfl)) (mvT hZ (W 53 rfl)) (notFace_of_selects (args := #[]) (mvT hZ (W 55 rfl))) (mvT hZ (W 55 rfl)) (mvT hZ (W 54 rfl)) (by decide) (backOf (W := 0) (rmsca l Z a0 G1 fm hG [] a1 b kb cd z vs (2 : Int32) cs 2 dz h0 n0 Z0 X00 E_a1 F_coder_a1 F_value_a1 V_b hs hn hu rfl gdz) hZ (W 56 rfl) (W 4 rfl) (by decide) (by decide)) q458a q458c (g := (mkF m 37 #[.val (.ref a1), .val (.int nn), .val (.int 2), .val (.int dp)] [.int 2, .ref a1])) rfl (by rw [hml]; rfl) (Steps.refl _) (argsL := [.int 2]) (rest := []) (lenOf pd__I_C rfl) rfl (by show 2 * 0 + _ ≤ _; exact Nat.le_of_eq rfl) (hB d24_37) (fun _ _ => ⟨rfl, e0, (by decide : 0 + 0 ≤ _), (by decide : 0 + 0 ≤ _)⟩)
  dsimp only [Pt.U, Pt.locs, Pt.cells, Pt.slots] at X458 l458 y458 z458 st458 hQ458
  subst l458 y458 z458
  obtain ⟨rfl, N458q, eq458⟩ := hQ458
  have N458 := Fr.app N0 N458q
  -- pc 42: com/example/label_lattice/labellattice/Names.isAsciiLetter
  obtain ⟨_, _, ⟨T459, L459, k459, n459⟩, -, X459, ⟨Lc459, hQ459, l459, y459, z459⟩, st459⟩ := Jvm.LawKit.callS X458 hx (y := y20) hown (mvT hZ (W 74 rfl)) (mvT hZ (W 75 rfl)) (mvT hZ (W 25 rfl)) (mvT hZ (W 76 rfl)) (by decide) (backOf (W := 0) (rmial l Z a0 G1 fm hG [] dz h0 n0 Z0 X00) hZ (W 76 rfl) (W 25 rfl) (by decide) (by decide)) (g := (mkF m 42 #[.val (.ref a1), .val (.int nn), .val (.int 2), .val (.int dz)] [.int dz])) rfl (by rw [hml]; rfl) (argsL := [.int dz]) (rest := []) (lenOf pd__C_Z rfl) rfl (by show 2 * 0 + _ ≤ _; exact Nat.le_of_eq rfl) (hB d24_42) (fun _ _ => ⟨rfl, eq458, (by decide : 0 + 0 ≤ _), (by decide : 0 + 0 ≤ _)⟩)
  dsimp only [Pt.U, Pt.locs, Pt.cells, Pt.slots] at X459 l459 y459 z459 st459 hQ459
  subst l459 y459 z459
  obtain ⟨rfl, N459q, eq459⟩ := hQ459
  have N459 := Fr.app N458 N459q
  refine ⟨T459, _, X459, N459, ?_⟩
  rw [eq459]
  refine ⟨(Keep.refl h0 []), fun target kt => ?_⟩
  show Steps _ _ _ (T0.setTop (mkF m 30 #[.val (.ref a1), .val (.int nn), .val (.int 2), .val (.int dp)] [])) _
  refine XS.iloadN X0.here hx rfl (hB d24_30) rfl ?_
  refine XS.iloadN X0.here hx rfl (hB d24_31) rfl ?_
  refine XS.icmpNo X0.here hx rfl (hB d24_32) rfl (tlt (hlt : (2 : Int32) < nn)).2.1 ?_
  refine XS.aloadN X0.here hx rfl (hB d24_35) rfl rfl ?_
  refine XS.iloadN X0.here hx rfl (hB d24_36) rfl ?_
  refine st458.trans ?_
  show Steps _ _ _ (T458.setTop (mkF m 40 #[.val (.ref a1), .val (.int nn), .val (.int 2), .val (.int dp)] [.int dz])) _
  refine XS.istoreN X458.here hx rfl (hB d24_40) rfl (l' := #[.val (.ref a1), .val (.int nn), .val (.int 2), .val (.int dz)]) rfl ?_
  refine XS.iloadN X458.here hx rfl (hB d24_41) rfl ?_
  refine st459 _ ?_
  show Steps _ _ _ (T459.setTop (mkF m 45 #[.val (.ref a1), .val (.int nn), .val (.int 2), .val (.int dz)] [(.int (own_letter dz))])) _
  refine XS.ifYes X459.here hx rfl (pc0 := 45) (pc' := 63) rfl (hB d24_45) rfl ((if0 _ _).trans (feq (hc45 : ¬ ((own_letter dz) = (0 : Int32)))).2) (by decide) (by decide) ?_
  refine XS.iinc X459.here hx rfl (hB d24_63) rfl (l' := #[.val (.ref a1), .val (.int nn), .val (.int 3), .val (.int dz)]) rfl ?_
  refine XS.goto X459.here hx rfl (pc0 := 66) (pc' := 30) rfl (hB d24_66) (by decide) (by decide) ?_
  exact kt
theorem sgtn2_d {p : Program} {l : Launch} {e : Env} {s : State} {m : MethodId} {args : Array Value} {below : List Frame} {meth : Method} {c : Code} {T0 : State} {locs : List Loc} (Z : State) (a0 : Array Value) (G1 : Int32) (fm : Value) (hG : Glob Z a0 G1 fm) (a1 : Addr) (b : Addr) (kb : ClassId) (cd : Int32) (z : Int32) (vs : List Value) (cs : List Int32) (nn : Int32) (dz : Int32) (dp : Int32) (h0 : Heap) (n0 : Nat) (Z0 : n0 ≤ h0.size) (X00 : Old Z n0 h0) (E_a1 : Exa Z h0 a1 "java/lang/String") (F_coder_a1 : Fld Z h0 a1 "java/lang/String" "coder" "B" (.int cd)) (F_value_a1 : Fld Z h0 a1 "java/lang/String" "value" "[B" (.ref b)) (V_b : Arv Z h0 b kb .byte z vs (.int 0)) (hs : own_str cd z vs cs) (hn : cs.length < 5) (hu : ∀ c ∈ cs, own_u16 c) (en : nn = Int32.ofNat cs.length) (hlt : (2 : Int32) < nn) (gdz : cs[2]? = some dz) (hwz : ¬ own_word dz = 0) (hc45 : (own_letter dz) = (0 : Int32)) (hc52 : ¬ ((own_digit dz) = (0 : Int32))) (X0 : Stand p l e (Room.mk 5 0 0 66) s m args below meth c T0 locs 0 0) (hx : p.tables.exec = Jvm.exec) (hZ : Z.Warmed39 s.vm) (hby : c.code = prog_27_method_2_code) (hml : c.maxLocals = 4) (hown : s.vm.findClass "com/example/label_lattice/labellattice/Names" = some m.cls) (e0 : T0.heap = h0) (N0 : Fr n0 locs) :
    ∃ (T' : State) (L' : List Loc), Stand p l e (Room.mk 5 0 0 66) s m args below meth c T' L' 0 0 ∧ Fr n0 L' ∧ Keep h0 T'.heap [] ∧ ∀ target, Steps p.tables e below (T'.setTop (mkF m 30 #[.val (.ref a1), .val (.int nn), .val (.int 3), .val (.int dz)] [])) target → Steps p.tables e below (T0.setTop (mkF m 30 #[.val (.ref a1), .val (.int nn), .val (.int 2), .val (.int dp)] [])) target := by
  obtain ⟨hw, O_cs, P_cs, O_as, O_hi, O_lo, O_fm, R_fm⟩ := id hG
  have W := @own_W _ _ hw
  have hB := @hb _ _ hby
  obtain ⟨cq460, kq460, q460a, q460b, q460c⟩ := isOf hZ e0 E_a1
  -- pc 37: java/lang/String.charAt
  obtain ⟨_, _, ⟨T460, L460, k460, n460⟩, -, X460, ⟨Lc460, hQ460, l460, y460, z460⟩, st460⟩ := X0.virtualBack hx (y := y11) (z := y11) hown (mvT hZ (W 52 rfl)) (mvT hZ (W 53 rfl)) (notFace_of_selects (args := #[]) (mvT hZ (W 55 rfl))) (mvT hZ (W 55 rfl)) (mvT hZ (W 54 rfl)) (by decide) (backOf (W := 0) (rmsca l Z a0 G1 fm hG [] a1 b kb cd z vs (2 : Int32) cs 2 dz h0 n0 Z0 X00 E_a1 F_coder_a1 F_value_a1 V_b hs hn hu rfl gdz) hZ (W 56 rfl) (W 4 rfl) (by decide) (by decide)) q460a q460c (g := (mkF m 37 #[.val (.ref a1), .val (.int nn), .val (.int 2), .val (.int dp)] [.int 2, .ref a1])) rfl (by rw [hml]; rfl) (Steps.refl _) (argsL := [.int 2]) (rest := []) (lenOf pd__I_C rfl) rfl (by show 2 * 0 + _ ≤ _; exact Nat.le_of_eq rfl) (hB d24_37) (fun _ _ => ⟨rfl, e0, (by decide : 0 + 0 ≤ _), (by decide : 0 + 0 ≤ _)⟩)
  dsimp only [Pt.U, Pt.locs, Pt.cells, Pt.slots] at X460 l460 y460 z460 st460 hQ460
  subst l460 y460 z460
  obtain ⟨rfl, N460q, eq460⟩ := hQ460
  have N460 := Fr.app N0 N460q
  -- pc 42: com/example/label_lattice/labellattice/Names.isAsciiLetter
  obtain ⟨_, _, ⟨T461, L461, k461, n461⟩, -, X461, ⟨Lc461, hQ461, l461, y461, z461⟩, st461⟩ := Jvm.LawKit.callS X460 hx (y := y20) hown (mvT hZ (W 74 rfl)) (mvT hZ (W 75 rfl)) (mvT hZ (W 25 rfl)) (mvT hZ (W 76 rfl)) (by decide) (backOf (W := 0) (rmial l Z a0 G1 fm hG [] dz h0 n0 Z0 X00) hZ (W 76 rfl) (W 25 rfl) (by decide) (by decide)) (g := (mkF m 42 #[.val (.ref a1), .val (.int nn), .val (.int 2), .val (.int dz)] [.int dz])) rfl (by rw [hml]; rfl) (argsL := [.int dz]) (rest := []) (lenOf pd__C_Z rfl) rfl (by show 2 * 0 + _ ≤ _; exact Nat.le_of_eq rfl) (hB d24_42) (fun _ _ => ⟨rfl, eq460, (by decide : 0 + 0 ≤ _), (by decide : 0 + 0 ≤ _)⟩)
  dsimp only [Pt.U, Pt.locs, Pt.cells, Pt.slots] at X461 l461 y461 z461 st461 hQ461
  subst l461 y461 z461
  obtain ⟨rfl, N461q, eq461⟩ := hQ461
  have N461 := Fr.app N460 N461q
  -- pc 49: com/example/label_lattice/labellattice/Names.isAsciiDigit
  obtain ⟨_, _, ⟨T462, L462, k462, n462⟩, -, X462, ⟨Lc462, hQ462, l462, y462, z462⟩, st462⟩ := Jvm.LawKit.callS X461 hx (y := y22) hown (mvT hZ (W 80 rfl)) (mvT hZ (W 81 rfl)) (mvT hZ (W 25 rfl)) (mvT hZ (W 82 rfl)) (by decide) (backOf (W := 0) (rmiad l Z a0 G1 fm hG [] dz h0 n0 Z0 X00) hZ (W 82 rfl) (W 25 rfl) (by decide) (by decide)) (g := (mkF m 49 #[.val (.ref a1), .val (.int nn), .val (.int 2), .val (.int dz)] [.int dz])) rfl (by rw [hml]; rfl) (argsL := [.int dz]) (rest := []) (lenOf pd__C_Z rfl) rfl (by show 2 * 0 + _ ≤ _; exact Nat.le_of_eq rfl) (hB d24_49) (fun _ _ => ⟨rfl, eq461, (by decide : 0 + 0 ≤ _), (by decide : 0 + 0 ≤ _)⟩)
  dsimp only [Pt.U, Pt.locs, Pt.cells, Pt.slots] at X462 l462 y462 z462 st462 hQ462
  subst l462 y462 z462
  obtain ⟨rfl, N462q, eq462⟩ := hQ462
  have N462 := Fr.app N461 N462q
  refine ⟨T462, _, X462, N462, ?_⟩
  rw [eq462]
  refine ⟨(Keep.refl h0 []), fun target kt => ?_⟩
  show Steps _ _ _ (T0.setTop (mkF m 30 #[.val (.ref a1), .val (.int nn), .val (.int 2), .val (.int dp)] [])) _
  refine XS.iloadN X0.here hx rfl (hB d24_30) rfl ?_
  refine XS.iloadN X0.here hx rfl (hB d24_31) rfl ?_
  refine XS.icmpNo X0.here hx rfl (hB d24_32) rfl (tlt (hlt : (2 : Int32) < nn)).2.1 ?_
  refine XS.aloadN X0.here hx rfl (hB d24_35) rfl rfl ?_
  refine XS.iloadN X0.here hx rfl (hB d24_36) rfl ?_
  refine st460.trans ?_
  show Steps _ _ _ (T460.setTop (mkF m 40 #[.val (.ref a1), .val (.int nn), .val (.int 2), .val (.int dp)] [.int dz])) _
  refine XS.istoreN X460.here hx rfl (hB d24_40) rfl (l' := #[.val (.ref a1), .val (.int nn), .val (.int 2), .val (.int dz)]) rfl ?_
  refine XS.iloadN X460.here hx rfl (hB d24_41) rfl ?_
  refine st461 _ ?_
  show Steps _ _ _ (T461.setTop (mkF m 45 #[.val (.ref a1), .val (.int nn), .val (.int 2), .val (.int dz)] [(.int (own_letter dz))])) _
  refine XS.ifNo X461.here hx rfl (hB d24_45) rfl ((if0 _ _).trans (teq (hc45 : (own_letter dz) = (0 : Int32))).2) ?_
  refine XS.iloadN X461.here hx rfl (hB d24_48) rfl ?_
  refine st462 _ ?_
  show Steps _ _ _ (T462.setTop (mkF m 52 #[.val (.ref a1), .val (.int nn), .val (.int 2), .val (.int dz)] [(.int (own_digit dz))])) _
  refine XS.ifYes X462.here hx rfl (pc0 := 52) (pc' := 63) rfl (hB d24_52) rfl ((if0 _ _).trans (feq (hc52 : ¬ ((own_digit dz) = (0 : Int32)))).2) (by decide) (by decide) ?_
  refine XS.iinc X462.here hx rfl (hB d24_63) rfl (l' := #[.val (.ref a1), .val (.int nn), .val (.int 3), .val (.int dz)]) rfl ?_
  refine XS.goto X462.here hx rfl (pc0 := 66) (pc' := 30) rfl (hB d24_66) (by decide) (by decide) ?_
  exact kt
theorem sgtn2_u {p : Program} {l : Launch} {e : Env} {s : State} {m : MethodId} {args : Array Value} {below : List Frame} {meth : Method} {c : Code} {T0 : State} {locs : List Loc} (Z : State) (a0 : Array Value) (G1 : Int32) (fm : Value) (hG : Glob Z a0 G1 fm) (a1 : Addr) (b : Addr) (kb : ClassId) (cd : Int32) (z : Int32) (vs : List Value) (cs : List Int32) (nn : Int32) (dz : Int32) (dp : Int32) (h0 : Heap) (n0 : Nat) (Z0 : n0 ≤ h0.size) (X00 : Old Z n0 h0) (E_a1 : Exa Z h0 a1 "java/lang/String") (F_coder_a1 : Fld Z h0 a1 "java/lang/String" "coder" "B" (.int cd)) (F_value_a1 : Fld Z h0 a1 "java/lang/String" "value" "[B" (.ref b)) (V_b : Arv Z h0 b kb .byte z vs (.int 0)) (hs : own_str cd z vs cs) (hn : cs.length < 5) (hu : ∀ c ∈ cs, own_u16 c) (en : nn = Int32.ofNat cs.length) (hlt : (2 : Int32) < nn) (gdz : cs[2]? = some dz) (hwz : ¬ own_word dz = 0) (hc45 : (own_letter dz) = (0 : Int32)) (hc52 : (own_digit dz) = (0 : Int32)) (hc58 : dz = (95 : Int32)) (X0 : Stand p l e (Room.mk 5 0 0 66) s m args below meth c T0 locs 0 0) (hx : p.tables.exec = Jvm.exec) (hZ : Z.Warmed39 s.vm) (hby : c.code = prog_27_method_2_code) (hml : c.maxLocals = 4) (hown : s.vm.findClass "com/example/label_lattice/labellattice/Names" = some m.cls) (e0 : T0.heap = h0) (N0 : Fr n0 locs) :
    ∃ (T' : State) (L' : List Loc), Stand p l e (Room.mk 5 0 0 66) s m args below meth c T' L' 0 0 ∧ Fr n0 L' ∧ Keep h0 T'.heap [] ∧ ∀ target, Steps p.tables e below (T'.setTop (mkF m 30 #[.val (.ref a1), .val (.int nn), .val (.int 3), .val (.int dz)] [])) target → Steps p.tables e below (T0.setTop (mkF m 30 #[.val (.ref a1), .val (.int nn), .val (.int 2), .val (.int dp)] [])) target := by
  obtain ⟨hw, O_cs, P_cs, O_as, O_hi, O_lo, O_fm, R_fm⟩ := id hG
  have W := @own_W _ _ hw
  have hB := @hb _ _ hby
  obtain ⟨cq463, kq463, q463a, q463b, q463c⟩ := isOf hZ e0 E_a1
  -- pc 37: java/lang/String.charAt
  obtain ⟨_, _, ⟨T463, L463, k463, n463⟩, -, X463, ⟨Lc463, hQ463, l463, y463, z463⟩, st463⟩ := X0.virtualBack hx (y := y11) (z := y11) hown (mvT hZ (W 52 rfl)) (mvT hZ (W 53 rfl)) (notFace_of_selects (args := #[]) (mvT hZ (W 55 rfl))) (mvT hZ (W 55 rfl)) (mvT hZ (W 54 rfl)) (by decide) (backOf (W := 0) (rmsca l Z a0 G1 fm hG [] a1 b kb cd z vs (2 : Int32) cs 2 dz h0 n0 Z0 X00 E_a1 F_coder_a1 F_value_a1 V_b hs hn hu rfl gdz) hZ (W 56 rfl) (W 4 rfl) (by decide) (by decide)) q463a q463c (g := (mkF m 37 #[.val (.ref a1), .val (.int nn), .val (.int 2), .val (.int dp)] [.int 2, .ref a1])) rfl (by rw [hml]; rfl) (Steps.refl _) (argsL := [.int 2]) (rest := []) (lenOf pd__I_C rfl) rfl (by show 2 * 0 + _ ≤ _; exact Nat.le_of_eq rfl) (hB d24_37) (fun _ _ => ⟨rfl, e0, (by decide : 0 + 0 ≤ _), (by decide : 0 + 0 ≤ _)⟩)
  dsimp only [Pt.U, Pt.locs, Pt.cells, Pt.slots] at X463 l463 y463 z463 st463 hQ463
  subst l463 y463 z463
  obtain ⟨rfl, N463q, eq463⟩ := hQ463
  have N463 := Fr.app N0 N463q
  -- pc 42: com/example/label_lattice/labellattice/Names.isAsciiLetter
  obtain ⟨_, _, ⟨T464, L464, k464, n464⟩, -, X464, ⟨Lc464, hQ464, l464, y464, z464⟩, st464⟩ := Jvm.LawKit.callS X463 hx (y := y20) hown (mvT hZ (W 74 rfl)) (mvT hZ (W 75 rfl)) (mvT hZ (W 25 rfl)) (mvT hZ (W 76 rfl)) (by decide) (backOf (W := 0) (rmial l Z a0 G1 fm hG [] dz h0 n0 Z0 X00) hZ (W 76 rfl) (W 25 rfl) (by decide) (by decide)) (g := (mkF m 42 #[.val (.ref a1), .val (.int nn), .val (.int 2), .val (.int dz)] [.int dz])) rfl (by rw [hml]; rfl) (argsL := [.int dz]) (rest := []) (lenOf pd__C_Z rfl) rfl (by show 2 * 0 + _ ≤ _; exact Nat.le_of_eq rfl) (hB d24_42) (fun _ _ => ⟨rfl, eq463, (by decide : 0 + 0 ≤ _), (by decide : 0 + 0 ≤ _)⟩)
  dsimp only [Pt.U, Pt.locs, Pt.cells, Pt.slots] at X464 l464 y464 z464 st464 hQ464
  subst l464 y464 z464
  obtain ⟨rfl, N464q, eq464⟩ := hQ464
  have N464 := Fr.app N463 N464q
  -- pc 49: com/example/label_lattice/labellattice/Names.isAsciiDigit
  obtain ⟨_, _, ⟨T465, L465, k465, n465⟩, -, X465, ⟨Lc465, hQ465, l465, y465, z465⟩, st465⟩ := Jvm.LawKit.callS X464 hx (y := y22) hown (mvT hZ (W 80 rfl)) (mvT hZ (W 81 rfl)) (mvT hZ (W 25 rfl)) (mvT hZ (W 82 rfl)) (by decide) (backOf (W := 0) (rmiad l Z a0 G1 fm hG [] dz h0 n0 Z0 X00) hZ (W 82 rfl) (W 25 rfl) (by decide) (by decide)) (g := (mkF m 49 #[.val (.ref a1), .val (.int nn), .val (.int 2), .val (.int dz)] [.int dz])) rfl (by rw [hml]; rfl) (argsL := [.int dz]) (rest := []) (lenOf pd__C_Z rfl) rfl (by show 2 * 0 + _ ≤ _; exact Nat.le_of_eq rfl) (hB d24_49) (fun _ _ => ⟨rfl, eq464, (by decide : 0 + 0 ≤ _), (by decide : 0 + 0 ≤ _)⟩)
  dsimp only [Pt.U, Pt.locs, Pt.cells, Pt.slots] at X465 l465 y465 z465 st465 hQ465
  subst l465 y465 z465
  obtain ⟨rfl, N465q, eq465⟩ := hQ465
  have N465 := Fr.app N464 N465q
  refine ⟨T465, _, X465, N465, ?_⟩
  rw [eq465]
  refine ⟨(Keep.refl h0 []), fun target kt => ?_⟩
  show Steps _ _ _ (T0.setTop (mkF m 30 #[.val (.ref a1), .val (.int nn), .val (.int 2), .val (.int dp)] [])) _
  refine XS.iloadN X0.here hx rfl (hB d24_30) rfl ?_
  refine XS.iloadN X0.here hx rfl (hB d24_31) rfl ?_
  refine XS.icmpNo X0.here hx rfl (hB d24_32) rfl (tlt (hlt : (2 : Int32) < nn)).2.1 ?_
  refine XS.aloadN X0.here hx rfl (hB d24_35) rfl rfl ?_
  refine XS.iloadN X0.here hx rfl (hB d24_36) rfl ?_
  refine st463.trans ?_
  show Steps _ _ _ (T463.setTop (mkF m 40 #[.val (.ref a1), .val (.int nn), .val (.int 2), .val (.int dp)] [.int dz])) _
  refine XS.istoreN X463.here hx rfl (hB d24_40) rfl (l' := #[.val (.ref a1), .val (.int nn), .val (.int 2), .val (.int dz)]) rfl ?_
  refine XS.iloadN X463.here hx rfl (hB d24_41) rfl ?_
  refine st464 _ ?_
  show Steps _ _ _ (T464.setTop (mkF m 45 #[.val (.ref a1), .val (.int nn), .val (.int 2), .val (.int dz)] [(.int (own_letter dz))])) _
  refine XS.ifNo X464.here hx rfl (hB d24_45) rfl ((if0 _ _).trans (teq (hc45 : (own_letter dz) = (0 : Int32))).2) ?_
  refine XS.iloadN X464.here hx rfl (hB d24_48) rfl ?_
  refine st465 _ ?_
  show Steps _ _ _ (T465.setTop (mkF m 52 #[.val (.ref a1), .val (.int nn), .val (.int 2), .val (.int dz)] [(.int (own_digit dz))])) _
  refine XS.ifNo X465.here hx rfl (hB d24_52) rfl ((if0 _ _).trans (teq (hc52 : (own_digit dz) = (0 : Int32))).2) ?_
  refine XS.iloadN X465.here hx rfl (hB d24_55) rfl ?_
  refine XS.bipush X465.here hx rfl (hB d24_56) ?_
  refine XS.icmpYes X465.here hx rfl (pc0 := 58) (pc' := 63) rfl (hB d24_58) rfl (teq (hc58 : dz = (95 : Int32))).1 (by decide) (by decide) ?_
  refine XS.iinc X465.here hx rfl (hB d24_63) rfl (l' := #[.val (.ref a1), .val (.int nn), .val (.int 3), .val (.int dz)]) rfl ?_
  refine XS.goto X465.here hx rfl (pc0 := 66) (pc' := 30) rfl (hB d24_66) (by decide) (by decide) ?_
  exact kt
theorem sgtn2 {p : Program} {l : Launch} {e : Env} {s : State} {m : MethodId} {args : Array Value} {below : List Frame} {meth : Method} {c : Code} {T0 : State} {locs : List Loc} (Z : State) (a0 : Array Value) (G1 : Int32) (fm : Value) (hG : Glob Z a0 G1 fm) (a1 : Addr) (b : Addr) (kb : ClassId) (cd : Int32) (z : Int32) (vs : List Value) (cs : List Int32) (nn : Int32) (dz : Int32) (dp : Int32) (h0 : Heap) (n0 : Nat) (Z0 : n0 ≤ h0.size) (X00 : Old Z n0 h0) (E_a1 : Exa Z h0 a1 "java/lang/String") (F_coder_a1 : Fld Z h0 a1 "java/lang/String" "coder" "B" (.int cd)) (F_value_a1 : Fld Z h0 a1 "java/lang/String" "value" "[B" (.ref b)) (V_b : Arv Z h0 b kb .byte z vs (.int 0)) (hs : own_str cd z vs cs) (hn : cs.length < 5) (hu : ∀ c ∈ cs, own_u16 c) (en : nn = Int32.ofNat cs.length) (hlt : (2 : Int32) < nn) (gdz : cs[2]? = some dz) (hwz : ¬ own_word dz = 0) (X0 : Stand p l e (Room.mk 5 0 0 66) s m args below meth c T0 locs 0 0) (hx : p.tables.exec = Jvm.exec) (hZ : Z.Warmed39 s.vm) (hby : c.code = prog_27_method_2_code) (hml : c.maxLocals = 4) (hown : s.vm.findClass "com/example/label_lattice/labellattice/Names" = some m.cls) (e0 : T0.heap = h0) (N0 : Fr n0 locs) :
    ∃ (T' : State) (L' : List Loc), Stand p l e (Room.mk 5 0 0 66) s m args below meth c T' L' 0 0 ∧ Fr n0 L' ∧ Keep h0 T'.heap [] ∧ ∀ target, Steps p.tables e below (T'.setTop (mkF m 30 #[.val (.ref a1), .val (.int nn), .val (.int 3), .val (.int dz)] [])) target → Steps p.tables e below (T0.setTop (mkF m 30 #[.val (.ref a1), .val (.int nn), .val (.int 2), .val (.int dp)] [])) target := by
  by_cases h1 : own_letter dz = (0 : Int32)
  · by_cases h2 : own_digit dz = (0 : Int32)
    · by_cases h3 : dz = (95 : Int32)
      · exact sgtn2_u Z a0 G1 fm hG a1 b kb cd z vs cs nn dz dp h0 n0 Z0 X00 E_a1 F_coder_a1 F_value_a1 V_b hs hn hu en hlt gdz hwz h1 h2 h3 X0 hx hZ hby hml hown e0 N0
      · exact absurd (by rw [own_word, if_pos h1, if_pos h2, if_neg h3]) hwz
    · exact sgtn2_d Z a0 G1 fm hG a1 b kb cd z vs cs nn dz dp h0 n0 Z0 X00 E_a1 F_coder_a1 F_value_a1 V_b hs hn hu en hlt gdz hwz h1 h2 X0 hx hZ hby hml hown e0 N0
  · exact sgtn2_l Z a0 G1 fm hG a1 b kb cd z vs cs nn dz dp h0 n0 Z0 X00 E_a1 F_coder_a1 F_value_a1 V_b hs hn hu en hlt gdz hwz h1 X0 hx hZ hby hml hown e0 N0
theorem sgtn3_l {p : Program} {l : Launch} {e : Env} {s : State} {m : MethodId} {args : Array Value} {below : List Frame} {meth : Method} {c : Code} {T0 : State} {locs : List Loc} (Z : State) (a0 : Array Value) (G1 : Int32) (fm : Value) (hG : Glob Z a0 G1 fm) (a1 : Addr) (b : Addr) (kb : ClassId) (cd : Int32) (z : Int32) (vs : List Value) (cs : List Int32) (nn : Int32) (dz : Int32) (dp : Int32) (h0 : Heap) (n0 : Nat) (Z0 : n0 ≤ h0.size) (X00 : Old Z n0 h0) (E_a1 : Exa Z h0 a1 "java/lang/String") (F_coder_a1 : Fld Z h0 a1 "java/lang/String" "coder" "B" (.int cd)) (F_value_a1 : Fld Z h0 a1 "java/lang/String" "value" "[B" (.ref b)) (V_b : Arv Z h0 b kb .byte z vs (.int 0)) (hs : own_str cd z vs cs) (hn : cs.length < 5) (hu : ∀ c ∈ cs, own_u16 c) (en : nn = Int32.ofNat cs.length) (hlt : (3 : Int32) < nn) (gdz : cs[3]? = some dz) (hwz : ¬ own_word dz = 0) (hc45 : ¬ ((own_letter dz) = (0 : Int32))) (X0 : Stand p l e (Room.mk 5 0 0 66) s m args below meth c T0 locs 0 0) (hx : p.tables.exec = Jvm.exec) (hZ : Z.Warmed39 s.vm) (hby : c.code = prog_27_method_2_code) (hml : c.maxLocals = 4) (hown : s.vm.findClass "com/example/label_lattice/labellattice/Names" = some m.cls) (e0 : T0.heap = h0) (N0 : Fr n0 locs) :
    ∃ (T' : State) (L' : List Loc), Stand p l e (Room.mk 5 0 0 66) s m args below meth c T' L' 0 0 ∧ Fr n0 L' ∧ Keep h0 T'.heap [] ∧ ∀ target, Steps p.tables e below (T'.setTop (mkF m 30 #[.val (.ref a1), .val (.int nn), .val (.int 4), .val (.int dz)] [])) target → Steps p.tables e below (T0.setTop (mkF m 30 #[.val (.ref a1), .val (.int nn), .val (.int 3), .val (.int dp)] [])) target := by
  obtain ⟨hw, O_cs, P_cs, O_as, O_hi, O_lo, O_fm, R_fm⟩ := id hG
  have W := @own_W _ _ hw
  have hB := @hb _ _ hby
  obtain ⟨cq466, kq466, q466a, q466b, q466c⟩ := isOf hZ e0 E_a1
  -- pc 37: java/lang/String.charAt
  obtain ⟨_, _, ⟨T466, L466, k466, n466⟩, -, X466, ⟨Lc466, hQ466, l466, y466, z466⟩, st466⟩ := X0.virtualBack hx (y := y11) (z := y11) hown (mvT hZ (W 52 rfl)) (mvT hZ (W 53 rfl)) (notFace_of_selects (args := #[]) (mvT hZ (W 55 rfl))) (mvT hZ (W 55 rfl)) (mvT hZ (W 54 rfl)) (by decide) (backOf (W := 0) (rmsca l Z a0 G1 fm hG [] a1 b kb cd z vs (3 : Int32) cs 3 dz h0 n0 Z0 X00 E_a1 F_coder_a1 F_value_a1 V_b hs hn hu rfl gdz) hZ (W 56 rfl) (W 4 rfl) (by decide) (by decide)) q466a q466c (g := (mkF m 37 #[.val (.ref a1), .val (.int nn), .val (.int 3), .val (.int dp)] [.int 3, .ref a1])) rfl (by rw [hml]; rfl) (Steps.refl _) (argsL := [.int 3]) (rest := []) (lenOf pd__I_C rfl) rfl (by show 2 * 0 + _ ≤ _; exact Nat.le_of_eq rfl) (hB d24_37) (fun _ _ => ⟨rfl, e0, (by decide : 0 + 0 ≤ _), (by decide : 0 + 0 ≤ _)⟩)
  dsimp only [Pt.U, Pt.locs, Pt.cells, Pt.slots] at X466 l466 y466 z466 st466 hQ466
  subst l466 y466 z466
  obtain ⟨rfl, N466q, eq466⟩ := hQ466
  have N466 := Fr.app N0 N466q
  -- pc 42: com/example/label_lattice/labellattice/Names.isAsciiLetter
  obtain ⟨_, _, ⟨T467, L467, k467, n467⟩, -, X467, ⟨Lc467, hQ467, l467, y467, z467⟩, st467⟩ := Jvm.LawKit.callS X466 hx (y := y20) hown (mvT hZ (W 74 rfl)) (mvT hZ (W 75 rfl)) (mvT hZ (W 25 rfl)) (mvT hZ (W 76 rfl)) (by decide) (backOf (W := 0) (rmial l Z a0 G1 fm hG [] dz h0 n0 Z0 X00) hZ (W 76 rfl) (W 25 rfl) (by decide) (by decide)) (g := (mkF m 42 #[.val (.ref a1), .val (.int nn), .val (.int 3), .val (.int dz)] [.int dz])) rfl (by rw [hml]; rfl) (argsL := [.int dz]) (rest := []) (lenOf pd__C_Z rfl) rfl (by show 2 * 0 + _ ≤ _; exact Nat.le_of_eq rfl) (hB d24_42) (fun _ _ => ⟨rfl, eq466, (by decide : 0 + 0 ≤ _), (by decide : 0 + 0 ≤ _)⟩)
  dsimp only [Pt.U, Pt.locs, Pt.cells, Pt.slots] at X467 l467 y467 z467 st467 hQ467
  subst l467 y467 z467
  obtain ⟨rfl, N467q, eq467⟩ := hQ467
  have N467 := Fr.app N466 N467q
  refine ⟨T467, _, X467, N467, ?_⟩
  rw [eq467]
  refine ⟨(Keep.refl h0 []), fun target kt => ?_⟩
  show Steps _ _ _ (T0.setTop (mkF m 30 #[.val (.ref a1), .val (.int nn), .val (.int 3), .val (.int dp)] [])) _
  refine XS.iloadN X0.here hx rfl (hB d24_30) rfl ?_
  refine XS.iloadN X0.here hx rfl (hB d24_31) rfl ?_
  refine XS.icmpNo X0.here hx rfl (hB d24_32) rfl (tlt (hlt : (3 : Int32) < nn)).2.1 ?_
  refine XS.aloadN X0.here hx rfl (hB d24_35) rfl rfl ?_
  refine XS.iloadN X0.here hx rfl (hB d24_36) rfl ?_
  refine st466.trans ?_
  show Steps _ _ _ (T466.setTop (mkF m 40 #[.val (.ref a1), .val (.int nn), .val (.int 3), .val (.int dp)] [.int dz])) _
  refine XS.istoreN X466.here hx rfl (hB d24_40) rfl (l' := #[.val (.ref a1), .val (.int nn), .val (.int 3), .val (.int dz)]) rfl ?_
  refine XS.iloadN X466.here hx rfl (hB d24_41) rfl ?_
  refine st467 _ ?_
  show Steps _ _ _ (T467.setTop (mkF m 45 #[.val (.ref a1), .val (.int nn), .val (.int 3), .val (.int dz)] [(.int (own_letter dz))])) _
  refine XS.ifYes X467.here hx rfl (pc0 := 45) (pc' := 63) rfl (hB d24_45) rfl ((if0 _ _).trans (feq (hc45 : ¬ ((own_letter dz) = (0 : Int32)))).2) (by decide) (by decide) ?_
  refine XS.iinc X467.here hx rfl (hB d24_63) rfl (l' := #[.val (.ref a1), .val (.int nn), .val (.int 4), .val (.int dz)]) rfl ?_
  refine XS.goto X467.here hx rfl (pc0 := 66) (pc' := 30) rfl (hB d24_66) (by decide) (by decide) ?_
  exact kt
theorem sgtn3_d {p : Program} {l : Launch} {e : Env} {s : State} {m : MethodId} {args : Array Value} {below : List Frame} {meth : Method} {c : Code} {T0 : State} {locs : List Loc} (Z : State) (a0 : Array Value) (G1 : Int32) (fm : Value) (hG : Glob Z a0 G1 fm) (a1 : Addr) (b : Addr) (kb : ClassId) (cd : Int32) (z : Int32) (vs : List Value) (cs : List Int32) (nn : Int32) (dz : Int32) (dp : Int32) (h0 : Heap) (n0 : Nat) (Z0 : n0 ≤ h0.size) (X00 : Old Z n0 h0) (E_a1 : Exa Z h0 a1 "java/lang/String") (F_coder_a1 : Fld Z h0 a1 "java/lang/String" "coder" "B" (.int cd)) (F_value_a1 : Fld Z h0 a1 "java/lang/String" "value" "[B" (.ref b)) (V_b : Arv Z h0 b kb .byte z vs (.int 0)) (hs : own_str cd z vs cs) (hn : cs.length < 5) (hu : ∀ c ∈ cs, own_u16 c) (en : nn = Int32.ofNat cs.length) (hlt : (3 : Int32) < nn) (gdz : cs[3]? = some dz) (hwz : ¬ own_word dz = 0) (hc45 : (own_letter dz) = (0 : Int32)) (hc52 : ¬ ((own_digit dz) = (0 : Int32))) (X0 : Stand p l e (Room.mk 5 0 0 66) s m args below meth c T0 locs 0 0) (hx : p.tables.exec = Jvm.exec) (hZ : Z.Warmed39 s.vm) (hby : c.code = prog_27_method_2_code) (hml : c.maxLocals = 4) (hown : s.vm.findClass "com/example/label_lattice/labellattice/Names" = some m.cls) (e0 : T0.heap = h0) (N0 : Fr n0 locs) :
    ∃ (T' : State) (L' : List Loc), Stand p l e (Room.mk 5 0 0 66) s m args below meth c T' L' 0 0 ∧ Fr n0 L' ∧ Keep h0 T'.heap [] ∧ ∀ target, Steps p.tables e below (T'.setTop (mkF m 30 #[.val (.ref a1), .val (.int nn), .val (.int 4), .val (.int dz)] [])) target → Steps p.tables e below (T0.setTop (mkF m 30 #[.val (.ref a1), .val (.int nn), .val (.int 3), .val (.int dp)] [])) target := by
  obtain ⟨hw, O_cs, P_cs, O_as, O_hi, O_lo, O_fm, R_fm⟩ := id hG
  have W := @own_W _ _ hw
  have hB := @hb _ _ hby
  obtain ⟨cq468, kq468, q468a, q468b, q468c⟩ := isOf hZ e0 E_a1
  -- pc 37: java/lang/String.charAt
  obtain ⟨_, _, ⟨T468, L468, k468, n468⟩, -, X468, ⟨Lc468, hQ468, l468, y468, z468⟩, st468⟩ := X0.virtualBack hx (y := y11) (z := y11) hown (mvT hZ (W 52 rfl)) (mvT hZ (W 53 rfl)) (notFace_of_selects (args := #[]) (mvT hZ (W 55 rfl))) (mvT hZ (W 55 rfl)) (mvT hZ (W 54 rfl)) (by decide) (backOf (W := 0) (rmsca l Z a0 G1 fm hG [] a1 b kb cd z vs (3 : Int32) cs 3 dz h0 n0 Z0 X00 E_a1 F_coder_a1 F_value_a1 V_b hs hn hu rfl gdz) hZ (W 56 rfl) (W 4 rfl) (by decide) (by decide)) q468a q468c (g := (mkF m 37 #[.val (.ref a1), .val (.int nn), .val (.int 3), .val (.int dp)] [.int 3, .ref a1])) rfl (by rw [hml]; rfl) (Steps.refl _) (argsL := [.int 3]) (rest := []) (lenOf pd__I_C rfl) rfl (by show 2 * 0 + _ ≤ _; exact Nat.le_of_eq rfl) (hB d24_37) (fun _ _ => ⟨rfl, e0, (by decide : 0 + 0 ≤ _), (by decide : 0 + 0 ≤ _)⟩)
  dsimp only [Pt.U, Pt.locs, Pt.cells, Pt.slots] at X468 l468 y468 z468 st468 hQ468
  subst l468 y468 z468
  obtain ⟨rfl, N468q, eq468⟩ := hQ468
  have N468 := Fr.app N0 N468q
  -- pc 42: com/example/label_lattice/labellattice/Names.isAsciiLetter
  obtain ⟨_, _, ⟨T469, L469, k469, n469⟩, -, X469, ⟨Lc469, hQ469, l469, y469, z469⟩, st469⟩ := Jvm.LawKit.callS X468 hx (y := y20) hown (mvT hZ (W 74 rfl)) (mvT hZ (W 75 rfl)) (mvT hZ (W 25 rfl)) (mvT hZ (W 76 rfl)) (by decide) (backOf (W := 0) (rmial l Z a0 G1 fm hG [] dz h0 n0 Z0 X00) hZ (W 76 rfl) (W 25 rfl) (by decide) (by decide)) (g := (mkF m 42 #[.val (.ref a1), .val (.int nn), .val (.int 3), .val (.int dz)] [.int dz])) rfl (by rw [hml]; rfl) (argsL := [.int dz]) (rest := []) (lenOf pd__C_Z rfl) rfl (by show 2 * 0 + _ ≤ _; exact Nat.le_of_eq rfl) (hB d24_42) (fun _ _ => ⟨rfl, eq468, (by decide : 0 + 0 ≤ _), (by decide : 0 + 0 ≤ _)⟩)
  dsimp only [Pt.U, Pt.locs, Pt.cells, Pt.slots] at X469 l469 y469 z469 st469 hQ469
  subst l469 y469 z469
  obtain ⟨rfl, N469q, eq469⟩ := hQ469
  have N469 := Fr.app N468 N469q
  -- pc 49: com/example/label_lattice/labellattice/Names.isAsciiDigit
  obtain ⟨_, _, ⟨T470, L470, k470, n470⟩, -, X470, ⟨Lc470, hQ470, l470, y470, z470⟩, st470⟩ := Jvm.LawKit.callS X469 hx (y := y22) hown (mvT hZ (W 80 rfl)) (mvT hZ (W 81 rfl)) (mvT hZ (W 25 rfl)) (mvT hZ (W 82 rfl)) (by decide) (backOf (W := 0) (rmiad l Z a0 G1 fm hG [] dz h0 n0 Z0 X00) hZ (W 82 rfl) (W 25 rfl) (by decide) (by decide)) (g := (mkF m 49 #[.val (.ref a1), .val (.int nn), .val (.int 3), .val (.int dz)] [.int dz])) rfl (by rw [hml]; rfl) (argsL := [.int dz]) (rest := []) (lenOf pd__C_Z rfl) rfl (by show 2 * 0 + _ ≤ _; exact Nat.le_of_eq rfl) (hB d24_49) (fun _ _ => ⟨rfl, eq469, (by decide : 0 + 0 ≤ _), (by decide : 0 + 0 ≤ _)⟩)
  dsimp only [Pt.U, Pt.locs, Pt.cells, Pt.slots] at X470 l470 y470 z470 st470 hQ470
  subst l470 y470 z470
  obtain ⟨rfl, N470q, eq470⟩ := hQ470
  have N470 := Fr.app N469 N470q
  refine ⟨T470, _, X470, N470, ?_⟩
  rw [eq470]
  refine ⟨(Keep.refl h0 []), fun target kt => ?_⟩
  show Steps _ _ _ (T0.setTop (mkF m 30 #[.val (.ref a1), .val (.int nn), .val (.int 3), .val (.int dp)] [])) _
  refine XS.iloadN X0.here hx rfl (hB d24_30) rfl ?_
  refine XS.iloadN X0.here hx rfl (hB d24_31) rfl ?_
  refine XS.icmpNo X0.here hx rfl (hB d24_32) rfl (tlt (hlt : (3 : Int32) < nn)).2.1 ?_
  refine XS.aloadN X0.here hx rfl (hB d24_35) rfl rfl ?_
  refine XS.iloadN X0.here hx rfl (hB d24_36) rfl ?_
  refine st468.trans ?_
  show Steps _ _ _ (T468.setTop (mkF m 40 #[.val (.ref a1), .val (.int nn), .val (.int 3), .val (.int dp)] [.int dz])) _
  refine XS.istoreN X468.here hx rfl (hB d24_40) rfl (l' := #[.val (.ref a1), .val (.int nn), .val (.int 3), .val (.int dz)]) rfl ?_
  refine XS.iloadN X468.here hx rfl (hB d24_41) rfl ?_
  refine st469 _ ?_
  show Steps _ _ _ (T469.setTop (mkF m 45 #[.val (.ref a1), .val (.int nn), .val (.int 3), .val (.int dz)] [(.int (own_letter dz))])) _
  refine XS.ifNo X469.here hx rfl (hB d24_45) rfl ((if0 _ _).trans (teq (hc45 : (own_letter dz) = (0 : Int32))).2) ?_
  refine XS.iloadN X469.here hx rfl (hB d24_48) rfl ?_
  refine st470 _ ?_
  show Steps _ _ _ (T470.setTop (mkF m 52 #[.val (.ref a1), .val (.int nn), .val (.int 3), .val (.int dz)] [(.int (own_digit dz))])) _
  refine XS.ifYes X470.here hx rfl (pc0 := 52) (pc' := 63) rfl (hB d24_52) rfl ((if0 _ _).trans (feq (hc52 : ¬ ((own_digit dz) = (0 : Int32)))).2) (by decide) (by decide) ?_
  refine XS.iinc X470.here hx rfl (hB d24_63) rfl (l' := #[.val (.ref a1), .val (.int nn), .val (.int 4), .val (.int dz)]) rfl ?_
  refine XS.goto X470.here hx rfl (pc0 := 66) (pc' := 30) rfl (hB d24_66) (by decide) (by decide) ?_
  exact kt
theorem sgtn3_u {p : Program} {l : Launch} {e : Env} {s : State} {m : MethodId} {args : Array Value} {below : List Frame} {meth : Method} {c : Code} {T0 : State} {locs : List Loc} (Z : State) (a0 : Array Value) (G1 : Int32) (fm : Value) (hG : Glob Z a0 G1 fm) (a1 : Addr) (b : Addr) (kb : ClassId) (cd : Int32) (z : Int32) (vs : List Value) (cs : List Int32) (nn : Int32) (dz : Int32) (dp : Int32) (h0 : Heap) (n0 : Nat) (Z0 : n0 ≤ h0.size) (X00 : Old Z n0 h0) (E_a1 : Exa Z h0 a1 "java/lang/String") (F_coder_a1 : Fld Z h0 a1 "java/lang/String" "coder" "B" (.int cd)) (F_value_a1 : Fld Z h0 a1 "java/lang/String" "value" "[B" (.ref b)) (V_b : Arv Z h0 b kb .byte z vs (.int 0)) (hs : own_str cd z vs cs) (hn : cs.length < 5) (hu : ∀ c ∈ cs, own_u16 c) (en : nn = Int32.ofNat cs.length) (hlt : (3 : Int32) < nn) (gdz : cs[3]? = some dz) (hwz : ¬ own_word dz = 0) (hc45 : (own_letter dz) = (0 : Int32)) (hc52 : (own_digit dz) = (0 : Int32)) (hc58 : dz = (95 : Int32)) (X0 : Stand p l e (Room.mk 5 0 0 66) s m args below meth c T0 locs 0 0) (hx : p.tables.exec = Jvm.exec) (hZ : Z.Warmed39 s.vm) (hby : c.code = prog_27_method_2_code) (hml : c.maxLocals = 4) (hown : s.vm.findClass "com/example/label_lattice/labellattice/Names" = some m.cls) (e0 : T0.heap = h0) (N0 : Fr n0 locs) :
    ∃ (T' : State) (L' : List Loc), Stand p l e (Room.mk 5 0 0 66) s m args below meth c T' L' 0 0 ∧ Fr n0 L' ∧ Keep h0 T'.heap [] ∧ ∀ target, Steps p.tables e below (T'.setTop (mkF m 30 #[.val (.ref a1), .val (.int nn), .val (.int 4), .val (.int dz)] [])) target → Steps p.tables e below (T0.setTop (mkF m 30 #[.val (.ref a1), .val (.int nn), .val (.int 3), .val (.int dp)] [])) target := by
  obtain ⟨hw, O_cs, P_cs, O_as, O_hi, O_lo, O_fm, R_fm⟩ := id hG
  have W := @own_W _ _ hw
  have hB := @hb _ _ hby
  obtain ⟨cq471, kq471, q471a, q471b, q471c⟩ := isOf hZ e0 E_a1
  -- pc 37: java/lang/String.charAt
  obtain ⟨_, _, ⟨T471, L471, k471, n471⟩, -, X471, ⟨Lc471, hQ471, l471, y471, z471⟩, st471⟩ := X0.virtualBack hx (y := y11) (z := y11) hown (mvT hZ (W 52 rfl)) (mvT hZ (W 53 rfl)) (notFace_of_selects (args := #[]) (mvT hZ (W 55 rfl))) (mvT hZ (W 55 rfl)) (mvT hZ (W 54 rfl)) (by decide) (backOf (W := 0) (rmsca l Z a0 G1 fm hG [] a1 b kb cd z vs (3 : Int32) cs 3 dz h0 n0 Z0 X00 E_a1 F_coder_a1 F_value_a1 V_b hs hn hu rfl gdz) hZ (W 56 rfl) (W 4 rfl) (by decide) (by decide)) q471a q471c (g := (mkF m 37 #[.val (.ref a1), .val (.int nn), .val (.int 3), .val (.int dp)] [.int 3, .ref a1])) rfl (by rw [hml]; rfl) (Steps.refl _) (argsL := [.int 3]) (rest := []) (lenOf pd__I_C rfl) rfl (by show 2 * 0 + _ ≤ _; exact Nat.le_of_eq rfl) (hB d24_37) (fun _ _ => ⟨rfl, e0, (by decide : 0 + 0 ≤ _), (by decide : 0 + 0 ≤ _)⟩)
  dsimp only [Pt.U, Pt.locs, Pt.cells, Pt.slots] at X471 l471 y471 z471 st471 hQ471
  subst l471 y471 z471
  obtain ⟨rfl, N471q, eq471⟩ := hQ471
  have N471 := Fr.app N0 N471q
  -- pc 42: com/example/label_lattice/labellattice/Names.isAsciiLetter
  obtain ⟨_, _, ⟨T472, L472, k472, n472⟩, -, X472, ⟨Lc472, hQ472, l472, y472, z472⟩, st472⟩ := Jvm.LawKit.callS X471 hx (y := y20) hown (mvT hZ (W 74 rfl)) (mvT hZ (W 75 rfl)) (mvT hZ (W 25 rfl)) (mvT hZ (W 76 rfl)) (by decide) (backOf (W := 0) (rmial l Z a0 G1 fm hG [] dz h0 n0 Z0 X00) hZ (W 76 rfl) (W 25 rfl) (by decide) (by decide)) (g := (mkF m 42 #[.val (.ref a1), .val (.int nn), .val (.int 3), .val (.int dz)] [.int dz])) rfl (by rw [hml]; rfl) (argsL := [.int dz]) (rest := []) (lenOf pd__C_Z rfl) rfl (by show 2 * 0 + _ ≤ _; exact Nat.le_of_eq rfl) (hB d24_42) (fun _ _ => ⟨rfl, eq471, (by decide : 0 + 0 ≤ _), (by decide : 0 + 0 ≤ _)⟩)
  dsimp only [Pt.U, Pt.locs, Pt.cells, Pt.slots] at X472 l472 y472 z472 st472 hQ472
  subst l472 y472 z472
  obtain ⟨rfl, N472q, eq472⟩ := hQ472
  have N472 := Fr.app N471 N472q
  -- pc 49: com/example/label_lattice/labellattice/Names.isAsciiDigit
  obtain ⟨_, _, ⟨T473, L473, k473, n473⟩, -, X473, ⟨Lc473, hQ473, l473, y473, z473⟩, st473⟩ := Jvm.LawKit.callS X472 hx (y := y22) hown (mvT hZ (W 80 rfl)) (mvT hZ (W 81 rfl)) (mvT hZ (W 25 rfl)) (mvT hZ (W 82 rfl)) (by decide) (backOf (W := 0) (rmiad l Z a0 G1 fm hG [] dz h0 n0 Z0 X00) hZ (W 82 rfl) (W 25 rfl) (by decide) (by decide)) (g := (mkF m 49 #[.val (.ref a1), .val (.int nn), .val (.int 3), .val (.int dz)] [.int dz])) rfl (by rw [hml]; rfl) (argsL := [.int dz]) (rest := []) (lenOf pd__C_Z rfl) rfl (by show 2 * 0 + _ ≤ _; exact Nat.le_of_eq rfl) (hB d24_49) (fun _ _ => ⟨rfl, eq472, (by decide : 0 + 0 ≤ _), (by decide : 0 + 0 ≤ _)⟩)
  dsimp only [Pt.U, Pt.locs, Pt.cells, Pt.slots] at X473 l473 y473 z473 st473 hQ473
  subst l473 y473 z473
  obtain ⟨rfl, N473q, eq473⟩ := hQ473
  have N473 := Fr.app N472 N473q
  refine ⟨T473, _, X473, N473, ?_⟩
  rw [eq473]
  refine ⟨(Keep.refl h0 []), fun target kt => ?_⟩
  show Steps _ _ _ (T0.setTop (mkF m 30 #[.val (.ref a1), .val (.int nn), .val (.int 3), .val (.int dp)] [])) _
  refine XS.iloadN X0.here hx rfl (hB d24_30) rfl ?_
  refine XS.iloadN X0.here hx rfl (hB d24_31) rfl ?_
  refine XS.icmpNo X0.here hx rfl (hB d24_32) rfl (tlt (hlt : (3 : Int32) < nn)).2.1 ?_
  refine XS.aloadN X0.here hx rfl (hB d24_35) rfl rfl ?_
  refine XS.iloadN X0.here hx rfl (hB d24_36) rfl ?_
  refine st471.trans ?_
  show Steps _ _ _ (T471.setTop (mkF m 40 #[.val (.ref a1), .val (.int nn), .val (.int 3), .val (.int dp)] [.int dz])) _
  refine XS.istoreN X471.here hx rfl (hB d24_40) rfl (l' := #[.val (.ref a1), .val (.int nn), .val (.int 3), .val (.int dz)]) rfl ?_
  refine XS.iloadN X471.here hx rfl (hB d24_41) rfl ?_
  refine st472 _ ?_
  show Steps _ _ _ (T472.setTop (mkF m 45 #[.val (.ref a1), .val (.int nn), .val (.int 3), .val (.int dz)] [(.int (own_letter dz))])) _
  refine XS.ifNo X472.here hx rfl (hB d24_45) rfl ((if0 _ _).trans (teq (hc45 : (own_letter dz) = (0 : Int32))).2) ?_
  refine XS.iloadN X472.here hx rfl (hB d24_48) rfl ?_
  refine st473 _ ?_
  show Steps _ _ _ (T473.setTop (mkF m 52 #[.val (.ref a1), .val (.int nn), .val (.int 3), .val (.int dz)] [(.int (own_digit dz))])) _
  refine XS.ifNo X473.here hx rfl (hB d24_52) rfl ((if0 _ _).trans (teq (hc52 : (own_digit dz) = (0 : Int32))).2) ?_
  refine XS.iloadN X473.here hx rfl (hB d24_55) rfl ?_
  refine XS.bipush X473.here hx rfl (hB d24_56) ?_
  refine XS.icmpYes X473.here hx rfl (pc0 := 58) (pc' := 63) rfl (hB d24_58) rfl (teq (hc58 : dz = (95 : Int32))).1 (by decide) (by decide) ?_
  refine XS.iinc X473.here hx rfl (hB d24_63) rfl (l' := #[.val (.ref a1), .val (.int nn), .val (.int 4), .val (.int dz)]) rfl ?_
  refine XS.goto X473.here hx rfl (pc0 := 66) (pc' := 30) rfl (hB d24_66) (by decide) (by decide) ?_
  exact kt
theorem sgtn3 {p : Program} {l : Launch} {e : Env} {s : State} {m : MethodId} {args : Array Value} {below : List Frame} {meth : Method} {c : Code} {T0 : State} {locs : List Loc} (Z : State) (a0 : Array Value) (G1 : Int32) (fm : Value) (hG : Glob Z a0 G1 fm) (a1 : Addr) (b : Addr) (kb : ClassId) (cd : Int32) (z : Int32) (vs : List Value) (cs : List Int32) (nn : Int32) (dz : Int32) (dp : Int32) (h0 : Heap) (n0 : Nat) (Z0 : n0 ≤ h0.size) (X00 : Old Z n0 h0) (E_a1 : Exa Z h0 a1 "java/lang/String") (F_coder_a1 : Fld Z h0 a1 "java/lang/String" "coder" "B" (.int cd)) (F_value_a1 : Fld Z h0 a1 "java/lang/String" "value" "[B" (.ref b)) (V_b : Arv Z h0 b kb .byte z vs (.int 0)) (hs : own_str cd z vs cs) (hn : cs.length < 5) (hu : ∀ c ∈ cs, own_u16 c) (en : nn = Int32.ofNat cs.length) (hlt : (3 : Int32) < nn) (gdz : cs[3]? = some dz) (hwz : ¬ own_word dz = 0) (X0 : Stand p l e (Room.mk 5 0 0 66) s m args below meth c T0 locs 0 0) (hx : p.tables.exec = Jvm.exec) (hZ : Z.Warmed39 s.vm) (hby : c.code = prog_27_method_2_code) (hml : c.maxLocals = 4) (hown : s.vm.findClass "com/example/label_lattice/labellattice/Names" = some m.cls) (e0 : T0.heap = h0) (N0 : Fr n0 locs) :
    ∃ (T' : State) (L' : List Loc), Stand p l e (Room.mk 5 0 0 66) s m args below meth c T' L' 0 0 ∧ Fr n0 L' ∧ Keep h0 T'.heap [] ∧ ∀ target, Steps p.tables e below (T'.setTop (mkF m 30 #[.val (.ref a1), .val (.int nn), .val (.int 4), .val (.int dz)] [])) target → Steps p.tables e below (T0.setTop (mkF m 30 #[.val (.ref a1), .val (.int nn), .val (.int 3), .val (.int dp)] [])) target := by
  by_cases h1 : own_letter dz = (0 : Int32)
  · by_cases h2 : own_digit dz = (0 : Int32)
    · by_cases h3 : dz = (95 : Int32)
      · exact sgtn3_u Z a0 G1 fm hG a1 b kb cd z vs cs nn dz dp h0 n0 Z0 X00 E_a1 F_coder_a1 F_value_a1 V_b hs hn hu en hlt gdz hwz h1 h2 h3 X0 hx hZ hby hml hown e0 N0
      · exact absurd (by rw [own_word, if_pos h1, if_pos h2, if_neg h3]) hwz
    · exact sgtn3_d Z a0 G1 fm hG a1 b kb cd z vs cs nn dz dp h0 n0 Z0 X00 E_a1 F_coder_a1 F_value_a1 V_b hs hn hu en hlt gdz hwz h1 h2 X0 hx hZ hby hml hown e0 N0
  · exact sgtn3_l Z a0 G1 fm hG a1 b kb cd z vs cs nn dz dp h0 n0 Z0 X00 E_a1 F_coder_a1 F_value_a1 V_b hs hn hu en hlt gdz hwz h1 X0 hx hZ hby hml hown e0 N0
theorem ef_prog_27_method_2_code_R (m : MethodId) (x0 : Addr) : entryFrame m #[.ref x0] 4 = mkF m 0 #[.val (.ref x0), .unset, .unset, .unset] [] := by first | (simp [entryFrame, mkF, argsToLocals, Value.category]; done) | rfl
abbrev y24 : MethodName := ⟨"com/example/label_lattice/labellattice/Names", "isValid", "(Ljava/lang/String;)Z"⟩
theorem rmisv_z (l : Launch) (Z : State) (a0 : Array Value) (G1 : Int32) (fm : Value) (hG : Glob Z a0 G1 fm) (ws : List Jvm.Cond) (a1 : Addr) (b : Addr) (kb : ClassId) (cd : Int32) (z : Int32) (vs : List Value) (cs : List Int32) (nn : Int32) (h0 : Heap) (n0 : Nat) (Z0 : n0 ≤ h0.size) (X00 : Old Z n0 h0) (E_a1 : Exa Z h0 a1 "java/lang/String") (F_coder_a1 : Fld Z h0 a1 "java/lang/String" "coder" "B" (.int cd)) (F_value_a1 : Fld Z h0 a1 "java/lang/String" "value" "[B" (.ref b)) (V_b : Arv Z h0 b kb .byte z vs (.int 0)) (hs : own_str cd z vs cs) (hn : cs.length < 5) (hu : ∀ c ∈ cs, own_u16 c) (en : nn = Int32.ofNat cs.length) (z0 : nn = (0 : Int32)) (hv : own_valid cs = (0 : Int32)) :
    Met l Z h0 y24 prog_27_method_2_code 4 (some .boolean) ws (Room.mk 5 0 0 66) #[.ref a1] (Qisv Z G1 fm a1 b kb cd z vs cs nn h0 n0) := by
  obtain ⟨hw, O_cs, P_cs, O_as, O_hi, O_lo, O_fm, R_fm⟩ := id hG
  have W := @own_W _ _ hw
  refine own_go "com/example/label_lattice/labellattice/Names" rfl (plainFor_of_name pn_com_example_label_lattice_labellattice_Names) ?_
  intro p e s m below meth c s₁ Bd hx hby hml hown hnm X0 e0 hZ
  have hB := @hb _ _ hby
  have N0 := Fr.nil n0
  obtain ⟨cq474, kq474, q474a, q474b, q474c⟩ := isOf hZ e0 E_a1
  -- pc 1: java/lang/String.length
  obtain ⟨_, _, ⟨T474, L474, k474, n474⟩, -, X474, ⟨Lc474, hQ474, l474, y474, z474⟩, st474⟩ := X0.virtualBack hx (y := y10) (z := y10) hown (mvT hZ (W 27 rfl)) (mvT hZ (W 28 rfl)) (notFace_of_selects (args := #[]) (mvT hZ (W 30 rfl))) (mvT hZ (W 30 rfl)) (mvT hZ (W 29 rfl)) (by decide) (backOf (W := 0) (rmsln l Z a0 G1 fm hG [] a1 b kb cd z vs cs nn h0 n0 Z0 X00 E_a1 F_coder_a1 F_value_a1 V_b hs hn en) hZ (W 31 rfl) (W 4 rfl) (by decide) (by decide)) q474a q474c (g := (mkF m 1 #[.val (.ref a1), .unset, .unset, .unset] [.ref a1])) rfl (by rw [hml]; rfl) (Steps.refl _) (argsL := []) (rest := []) (lenOf pd___I rfl) rfl (by show 2 * 0 + _ ≤ _; exact Nat.le_of_eq rfl) (hB d24_1) (fun _ _ => ⟨rfl, e0, (by decide : 0 + 0 ≤ _), (by decide : 0 + 0 ≤ _)⟩)
  dsimp only [Pt.U, Pt.locs, Pt.cells, Pt.slots] at X474 l474 y474 z474 st474 hQ474
  subst l474 y474 z474
  obtain ⟨rfl, N474q, eq474⟩ := hQ474
  have N474 := Fr.app N0 N474q
  obtain ⟨fs, hr, hrun, hended, hW, hsame⟩ := X474.leave (v := some (.int 0)) (fun h => by rw [Bd.returns] at h; cases h)
  refine ⟨_, _, castTop (ef_prog_27_method_2_code_R m a1) ?_, hrun, hended, _, _, rfl, ?_, ⟨_, rfl⟩, hW, hsame.mono (own_ble rfl) (own_ble rfl)⟩
  · show Steps _ _ _ (s₁.setTop (mkF m 0 #[.val (.ref a1), .unset, .unset, .unset] [])) _
    refine XS.aloadN X0.here hx rfl (hB d24_0) rfl rfl ?_
    refine st474.trans ?_
    show Steps _ _ _ (T474.setTop (mkF m 4 #[.val (.ref a1), .unset, .unset, .unset] [.int nn])) _
    refine XS.istoreN X474.here hx rfl (hB d24_4) rfl (l' := #[.val (.ref a1), .val (.int nn), .unset, .unset]) rfl ?_
    refine XS.iloadN X474.here hx rfl (hB d24_5) rfl ?_
    refine XS.ifYes X474.here hx rfl (pc0 := 6) (pc' := 26) rfl (hB d24_6) rfl ((if0 _ _).trans (teq (z0 : nn = (0 : Int32))).1) (by decide) (by decide) ?_
    refine XS.iconst X474.here hx rfl (hB d24_26) ?_
    exact retN X474 hx (t := .boolean) Bd.returns (by simp) (hB d24_27) hr
  · show Qisv Z G1 fm a1 b kb cd z vs cs nn h0 n0 _ T474.heap _
    rw [eq474]
    exact ⟨(by rw [hv]), N474, (Keep.refl h0 [])⟩
theorem rmisv_n (l : Launch) (Z : State) (a0 : Array Value) (G1 : Int32) (fm : Value) (hG : Glob Z a0 G1 fm) (ws : List Jvm.Cond) (a1 : Addr) (b : Addr) (kb : ClassId) (cd : Int32) (z : Int32) (vs : List Value) (cs : List Int32) (nn : Int32) (h0 : Heap) (n0 : Nat) (Z0 : n0 ≤ h0.size) (X00 : Old Z n0 h0) (E_a1 : Exa Z h0 a1 "java/lang/String") (F_coder_a1 : Fld Z h0 a1 "java/lang/String" "coder" "B" (.int cd)) (F_value_a1 : Fld Z h0 a1 "java/lang/String" "value" "[B" (.ref b)) (V_b : Arv Z h0 b kb .byte z vs (.int 0)) (hs : own_str cd z vs cs) (hn : cs.length < 5) (hu : ∀ c ∈ cs, own_u16 c) (en : nn = Int32.ofNat cs.length) (z1 : ¬ (nn = (0 : Int32))) (z2 : ¬ ((64 : Int32) < nn)) (d0 : Int32) (gd0 : cs[0]? = some d0) (hv : own_valid cs = (0 : Int32)) (hc23 : (own_letter d0) = (0 : Int32)) :
    Met l Z h0 y24 prog_27_method_2_code 4 (some .boolean) ws (Room.mk 5 0 0 66) #[.ref a1] (Qisv Z G1 fm a1 b kb cd z vs cs nn h0 n0) := by
  obtain ⟨hw, O_cs, P_cs, O_as, O_hi, O_lo, O_fm, R_fm⟩ := id hG
  have W := @own_W _ _ hw
  refine own_go "com/example/label_lattice/labellattice/Names" rfl (plainFor_of_name pn_com_example_label_lattice_labellattice_Names) ?_
  intro p e s m below meth c s₁ Bd hx hby hml hown hnm X0 e0 hZ
  have hB := @hb _ _ hby
  have N0 := Fr.nil n0
  obtain ⟨cq475, kq475, q475a, q475b, q475c⟩ := isOf hZ e0 E_a1
  -- pc 1: java/lang/String.length
  obtain ⟨_, _, ⟨T475, L475, k475, n475⟩, -, X475, ⟨Lc475, hQ475, l475, y475, z475⟩, st475⟩ := X0.virtualBack hx (y := y10) (z := y10) hown (mvT hZ (W 27 rfl)) (mvT hZ (W 28 rfl)) (notFace_of_selects (args := #[]) (mvT hZ (W 30 rfl))) (mvT hZ (W 30 rfl)) (mvT hZ (W 29 rfl)) (by decide) (backOf (W := 0) (rmsln l Z a0 G1 fm hG [] a1 b kb cd z vs cs nn h0 n0 Z0 X00 E_a1 F_coder_a1 F_value_a1 V_b hs hn en) hZ (W 31 rfl) (W 4 rfl) (by decide) (by decide)) q475a q475c (g := (mkF m 1 #[.val (.ref a1), .unset, .unset, .unset] [.ref a1])) rfl (by rw [hml]; rfl) (Steps.refl _) (argsL := []) (rest := []) (lenOf pd___I rfl) rfl (by show 2 * 0 + _ ≤ _; exact Nat.le_of_eq rfl) (hB d24_1) (fun _ _ => ⟨rfl, e0, (by decide : 0 + 0 ≤ _), (by decide : 0 + 0 ≤ _)⟩)
  dsimp only [Pt.U, Pt.locs, Pt.cells, Pt.slots] at X475 l475 y475 z475 st475 hQ475
  subst l475 y475 z475
  obtain ⟨rfl, N475q, eq475⟩ := hQ475
  have N475 := Fr.app N0 N475q
  obtain ⟨cq476, kq476, q476a, q476b, q476c⟩ := isOf hZ eq475 E_a1
  -- pc 17: java/lang/String.charAt
  obtain ⟨_, _, ⟨T476, L476, k476, n476⟩, -, X476, ⟨Lc476, hQ476, l476, y476, z476⟩, st476⟩ := X475.virtualBack hx (y := y11) (z := y11) hown (mvT hZ (W 52 rfl)) (mvT hZ (W 53 rfl)) (notFace_of_selects (args := #[]) (mvT hZ (W 55 rfl))) (mvT hZ (W 55 rfl)) (mvT hZ (W 54 rfl)) (by decide) (backOf (W := 0) (rmsca l Z a0 G1 fm hG [] a1 b kb cd z vs (0 : Int32) cs 0 d0 h0 n0 Z0 X00 E_a1 F_coder_a1 F_value_a1 V_b hs hn hu rfl gd0) hZ (W 56 rfl) (W 4 rfl) (by decide) (by decide)) q476a q476c (g := (mkF m 17 #[.val (.ref a1), .val (.int nn), .unset, .unset] [.int 0, .ref a1])) rfl (by rw [hml]; rfl) (Steps.refl _) (argsL := [.int 0]) (rest := []) (lenOf pd__I_C rfl) rfl (by show 2 * 0 + _ ≤ _; exact Nat.le_of_eq rfl) (hB d24_17) (fun _ _ => ⟨rfl, eq475, (by decide : 0 + 0 ≤ _), (by decide : 0 + 0 ≤ _)⟩)
  dsimp only [Pt.U, Pt.locs, Pt.cells, Pt.slots] at X476 l476 y476 z476 st476 hQ476
  subst l476 y476 z476
  obtain ⟨rfl, N476q, eq476⟩ := hQ476
  have N476 := Fr.app N475 N476q
  -- pc 20: com/example/label_lattice/labellattice/Names.isAsciiLetter
  obtain ⟨_, _, ⟨T477, L477, k477, n477⟩, -, X477, ⟨Lc477, hQ477, l477, y477, z477⟩, st477⟩ := Jvm.LawKit.callS X476 hx (y := y20) hown (mvT hZ (W 74 rfl)) (mvT hZ (W 75 rfl)) (mvT hZ (W 25 rfl)) (mvT hZ (W 76 rfl)) (by decide) (backOf (W := 0) (rmial l Z a0 G1 fm hG [] d0 h0 n0 Z0 X00) hZ (W 76 rfl) (W 25 rfl) (by decide) (by decide)) (g := (mkF m 20 #[.val (.ref a1), .val (.int nn), .unset, .unset] [.int d0])) rfl (by rw [hml]; rfl) (argsL := [.int d0]) (rest := []) (lenOf pd__C_Z rfl) rfl (by show 2 * 0 + _ ≤ _; exact Nat.le_of_eq rfl) (hB d24_20) (fun _ _ => ⟨rfl, eq476, (by decide : 0 + 0 ≤ _), (by decide : 0 + 0 ≤ _)⟩)
  dsimp only [Pt.U, Pt.locs, Pt.cells, Pt.slots] at X477 l477 y477 z477 st477 hQ477
  subst l477 y477 z477
  obtain ⟨rfl, N477q, eq477⟩ := hQ477
  have N477 := Fr.app N476 N477q
  obtain ⟨fs, hr, hrun, hended, hW, hsame⟩ := X477.leave (v := some (.int 0)) (fun h => by rw [Bd.returns] at h; cases h)
  refine ⟨_, _, castTop (ef_prog_27_method_2_code_R m a1) ?_, hrun, hended, _, _, rfl, ?_, ⟨_, rfl⟩, hW, hsame.mono (own_ble rfl) (own_ble rfl)⟩
  · show Steps _ _ _ (s₁.setTop (mkF m 0 #[.val (.ref a1), .unset, .unset, .unset] [])) _
    refine XS.aloadN X0.here hx rfl (hB d24_0) rfl rfl ?_
    refine st475.trans ?_
    show Steps _ _ _ (T475.setTop (mkF m 4 #[.val (.ref a1), .unset, .unset, .unset] [.int nn])) _
    refine XS.istoreN X475.here hx rfl (hB d24_4) rfl (l' := #[.val (.ref a1), .val (.int nn), .unset, .unset]) rfl ?_
    refine XS.iloadN X475.here hx rfl (hB d24_5) rfl ?_
    refine XS.ifNo X475.here hx rfl (hB d24_6) rfl ((if0 _ _).trans (feq (z1 : ¬ (nn = (0 : Int32)))).1) ?_
    refine XS.iloadN X475.here hx rfl (hB d24_9) rfl ?_
    refine XS.bipush X475.here hx rfl (hB d24_10) ?_
    refine XS.icmpNo X475.here hx rfl (hB d24_12) rfl (flt (z2 : ¬ ((64 : Int32) < nn))).2.2.1 ?_
    refine XS.aloadN X475.here hx rfl (hB d24_15) rfl rfl ?_
    refine XS.iconst X475.here hx rfl (hB d24_16) ?_
    refine st476.trans ?_
    show Steps _ _ _ (T476.setTop (mkF m 20 #[.val (.ref a1), .val (.int nn), .unset, .unset] [.int d0])) _
    refine st477 _ ?_
    show Steps _ _ _ (T477.setTop (mkF m 23 #[.val (.ref a1), .val (.int nn), .unset, .unset] [(.int (own_letter d0))])) _
    refine XS.ifNo X477.here hx rfl (hB d24_23) rfl ((if0 _ _).trans (teq (hc23 : (own_letter d0) = (0 : Int32))).2) ?_
    refine XS.iconst X477.here hx rfl (hB d24_26) ?_
    exact retN X477 hx (t := .boolean) Bd.returns (by simp) (hB d24_27) hr
  · show Qisv Z G1 fm a1 b kb cd z vs cs nn h0 n0 _ T477.heap _
    rw [eq477]
    exact ⟨(by rw [hv]), N477, (Keep.refl h0 [])⟩
theorem rmisv_f1 (l : Launch) (Z : State) (a0 : Array Value) (G1 : Int32) (fm : Value) (hG : Glob Z a0 G1 fm) (ws : List Jvm.Cond) (a1 : Addr) (b : Addr) (kb : ClassId) (cd : Int32) (z : Int32) (vs : List Value) (cs : List Int32) (nn : Int32) (h0 : Heap) (n0 : Nat) (Z0 : n0 ≤ h0.size) (X00 : Old Z n0 h0) (E_a1 : Exa Z h0 a1 "java/lang/String") (F_coder_a1 : Fld Z h0 a1 "java/lang/String" "coder" "B" (.int cd)) (F_value_a1 : Fld Z h0 a1 "java/lang/String" "value" "[B" (.ref b)) (V_b : Arv Z h0 b kb .byte z vs (.int 0)) (hs : own_str cd z vs cs) (hn : cs.length < 5) (hu : ∀ c ∈ cs, own_u16 c) (en : nn = Int32.ofNat cs.length) (z1 : ¬ (nn = (0 : Int32))) (z2 : ¬ ((64 : Int32) < nn)) (d0 : Int32) (gd0 : cs[0]? = some d0) (d1 : Int32) (gd1 : cs[1]? = some d1) (t1 : (1 : Int32) < nn) (hv : own_valid cs = (0 : Int32)) (hc23 : ¬ ((own_letter d0) = (0 : Int32))) (hc45 : (own_letter d1) = (0 : Int32)) (hc52 : (own_digit d1) = (0 : Int32)) (hc58 : ¬ (d1 = (95 : Int32))) :
    Met l Z h0 y24 prog_27_method_2_code 4 (some .boolean) ws (Room.mk 5 0 0 66) #[.ref a1] (Qisv Z G1 fm a1 b kb cd z vs cs nn h0 n0) := by
  obtain ⟨hw, O_cs, P_cs, O_as, O_hi, O_lo, O_fm, R_fm⟩ := id hG
  have W := @own_W _ _ hw
  refine own_go "com/example/label_lattice/labellattice/Names" rfl (plainFor_of_name pn_com_example_label_lattice_labellattice_Names) ?_
  intro p e s m below meth c s₁ Bd hx hby hml hown hnm X0 e0 hZ
  have hB := @hb _ _ hby
  have N0 := Fr.nil n0
  obtain ⟨cq478, kq478, q478a, q478b, q478c⟩ := isOf hZ e0 E_a1
  -- pc 1: java/lang/String.length
  obtain ⟨_, _, ⟨T478, L478, k478, n478⟩, -, X478, ⟨Lc478, hQ478, l478, y478, z478⟩, st478⟩ := X0.virtualBack hx (y := y10) (z := y10) hown (mvT hZ (W 27 rfl)) (mvT hZ (W 28 rfl)) (notFace_of_selects (args := #[]) (mvT hZ (W 30 rfl))) (mvT hZ (W 30 rfl)) (mvT hZ (W 29 rfl)) (by decide) (backOf (W := 0) (rmsln l Z a0 G1 fm hG [] a1 b kb cd z vs cs nn h0 n0 Z0 X00 E_a1 F_coder_a1 F_value_a1 V_b hs hn en) hZ (W 31 rfl) (W 4 rfl) (by decide) (by decide)) q478a q478c (g := (mkF m 1 #[.val (.ref a1), .unset, .unset, .unset] [.ref a1])) rfl (by rw [hml]; rfl) (Steps.refl _) (argsL := []) (rest := []) (lenOf pd___I rfl) rfl (by show 2 * 0 + _ ≤ _; exact Nat.le_of_eq rfl) (hB d24_1) (fun _ _ => ⟨rfl, e0, (by decide : 0 + 0 ≤ _), (by decide : 0 + 0 ≤ _)⟩)
  dsimp only [Pt.U, Pt.locs, Pt.cells, Pt.slots] at X478 l478 y478 z478 st478 hQ478
  subst l478 y478 z478
  obtain ⟨rfl, N478q, eq478⟩ := hQ478
  have N478 := Fr.app N0 N478q
  obtain ⟨cq479, kq479, q479a, q479b, q479c⟩ := isOf hZ eq478 E_a1
  -- pc 17: java/lang/String.charAt
  obtain ⟨_, _, ⟨T479, L479, k479, n479⟩, -, X479, ⟨Lc479, hQ479, l479, y479, z479⟩, st479⟩ := X478.virtualBack hx (y := y11) (z := y11) hown (mvT hZ (W 52 rfl)) (mvT hZ (W 53 rfl)) (notFace_of_selects (args := #[]) (mvT hZ (W 55 rfl))) (mvT hZ (W 55 rfl)) (mvT hZ (W 54 rfl)) (by decide) (backOf (W := 0) (rmsca l Z a0 G1 fm hG [] a1 b kb cd z vs (0 : Int32) cs 0 d0 h0 n0 Z0 X00 E_a1 F_coder_a1 F_value_a1 V_b hs hn hu rfl gd0) hZ (W 56 rfl) (W 4 rfl) (by decide) (by decide)) q479a q479c (g := (mkF m 17 #[.val (.ref a1), .val (.int nn), .unset, .unset] [.int 0, .ref a1])) rfl (by rw [hml]; rfl) (Steps.refl _) (argsL := [.int 0]) (rest := []) (lenOf pd__I_C rfl) rfl (by show 2 * 0 + _ ≤ _; exact Nat.le_of_eq rfl) (hB d24_17) (fun _ _ => ⟨rfl, eq478, (by decide : 0 + 0 ≤ _), (by decide : 0 + 0 ≤ _)⟩)
  dsimp only [Pt.U, Pt.locs, Pt.cells, Pt.slots] at X479 l479 y479 z479 st479 hQ479
  subst l479 y479 z479
  obtain ⟨rfl, N479q, eq479⟩ := hQ479
  have N479 := Fr.app N478 N479q
  -- pc 20: com/example/label_lattice/labellattice/Names.isAsciiLetter
  obtain ⟨_, _, ⟨T480, L480, k480, n480⟩, -, X480, ⟨Lc480, hQ480, l480, y480, z480⟩, st480⟩ := Jvm.LawKit.callS X479 hx (y := y20) hown (mvT hZ (W 74 rfl)) (mvT hZ (W 75 rfl)) (mvT hZ (W 25 rfl)) (mvT hZ (W 76 rfl)) (by decide) (backOf (W := 0) (rmial l Z a0 G1 fm hG [] d0 h0 n0 Z0 X00) hZ (W 76 rfl) (W 25 rfl) (by decide) (by decide)) (g := (mkF m 20 #[.val (.ref a1), .val (.int nn), .unset, .unset] [.int d0])) rfl (by rw [hml]; rfl) (argsL := [.int d0]) (rest := []) (lenOf pd__C_Z rfl) rfl (by show 2 * 0 + _ ≤ _; exact Nat.le_of_eq rfl) (hB d24_20) (fun _ _ => ⟨rfl, eq479, (by decide : 0 + 0 ≤ _), (by decide : 0 + 0 ≤ _)⟩)
  dsimp only [Pt.U, Pt.locs, Pt.cells, Pt.slots] at X480 l480 y480 z480 st480 hQ480
  subst l480 y480 z480
  obtain ⟨rfl, N480q, eq480⟩ := hQ480
  have N480 := Fr.app N479 N480q
  obtain ⟨cq481, kq481, q481a, q481b, q481c⟩ := isOf hZ eq480 E_a1
  -- pc 37: java/lang/String.charAt
  obtain ⟨_, _, ⟨T481, L481, k481, n481⟩, -, X481, ⟨Lc481, hQ481, l481, y481, z481⟩, st481⟩ := X480.virtualBack hx (y := y11) (z := y11) hown (mvT hZ (W 52 rfl)) (mvT hZ (W 53 rfl)) (notFace_of_selects (args := #[]) (mvT hZ (W 55 rfl))) (mvT hZ (W 55 rfl)) (mvT hZ (W 54 rfl)) (by decide) (backOf (W := 0) (rmsca l Z a0 G1 fm hG [] a1 b kb cd z vs (1 : Int32) cs 1 d1 h0 n0 Z0 X00 E_a1 F_coder_a1 F_value_a1 V_b hs hn hu rfl gd1) hZ (W 56 rfl) (W 4 rfl) (by decide) (by decide)) q481a q481c (g := (mkF m 37 #[.val (.ref a1), .val (.int nn), .val (.int 1), .unset] [.int 1, .ref a1])) rfl (by rw [hml]; rfl) (Steps.refl _) (argsL := [.int 1]) (rest := []) (lenOf pd__I_C rfl) rfl (by show 2 * 0 + _ ≤ _; exact Nat.le_of_eq rfl) (hB d24_37) (fun _ _ => ⟨rfl, eq480, (by decide : 0 + 0 ≤ _), (by decide : 0 + 0 ≤ _)⟩)
  dsimp only [Pt.U, Pt.locs, Pt.cells, Pt.slots] at X481 l481 y481 z481 st481 hQ481
  subst l481 y481 z481
  obtain ⟨rfl, N481q, eq481⟩ := hQ481
  have N481 := Fr.app N480 N481q
  -- pc 42: com/example/label_lattice/labellattice/Names.isAsciiLetter
  obtain ⟨_, _, ⟨T482, L482, k482, n482⟩, -, X482, ⟨Lc482, hQ482, l482, y482, z482⟩, st482⟩ := Jvm.LawKit.callS X481 hx (y := y20) hown (mvT hZ (W 74 rfl)) (mvT hZ (W 75 rfl)) (mvT hZ (W 25 rfl)) (mvT hZ (W 76 rfl)) (by decide) (backOf (W := 0) (rmial l Z a0 G1 fm hG [] d1 h0 n0 Z0 X00) hZ (W 76 rfl) (W 25 rfl) (by decide) (by decide)) (g := (mkF m 42 #[.val (.ref a1), .val (.int nn), .val (.int 1), .val (.int d1)] [.int d1])) rfl (by rw [hml]; rfl) (argsL := [.int d1]) (rest := []) (lenOf pd__C_Z rfl) rfl (by show 2 * 0 + _ ≤ _; exact Nat.le_of_eq rfl) (hB d24_42) (fun _ _ => ⟨rfl, eq481, (by decide : 0 + 0 ≤ _), (by decide : 0 + 0 ≤ _)⟩)
  dsimp only [Pt.U, Pt.locs, Pt.cells, Pt.slots] at X482 l482 y482 z482 st482 hQ482
  subst l482 y482 z482
  obtain ⟨rfl, N482q, eq482⟩ := hQ482
  have N482 := Fr.app N481 N482q
  -- pc 49: com/example/label_lattice/labellattice/Names.isAsciiDigit
  obtain ⟨_, _, ⟨T483, L483, k483, n483⟩, -, X483, ⟨Lc483, hQ483, l483, y483, z483⟩, st483⟩ := Jvm.LawKit.callS X482 hx (y := y22) hown (mvT hZ (W 80 rfl)) (mvT hZ (W 81 rfl)) (mvT hZ (W 25 rfl)) (mvT hZ (W 82 rfl)) (by decide) (backOf (W := 0) (rmiad l Z a0 G1 fm hG [] d1 h0 n0 Z0 X00) hZ (W 82 rfl) (W 25 rfl) (by decide) (by decide)) (g := (mkF m 49 #[.val (.ref a1), .val (.int nn), .val (.int 1), .val (.int d1)] [.int d1])) rfl (by rw [hml]; rfl) (argsL := [.int d1]) (rest := []) (lenOf pd__C_Z rfl) rfl (by show 2 * 0 + _ ≤ _; exact Nat.le_of_eq rfl) (hB d24_49) (fun _ _ => ⟨rfl, eq482, (by decide : 0 + 0 ≤ _), (by decide : 0 + 0 ≤ _)⟩)
  dsimp only [Pt.U, Pt.locs, Pt.cells, Pt.slots] at X483 l483 y483 z483 st483 hQ483
  subst l483 y483 z483
  obtain ⟨rfl, N483q, eq483⟩ := hQ483
  have N483 := Fr.app N482 N483q
  obtain ⟨fs, hr, hrun, hended, hW, hsame⟩ := X483.leave (v := some (.int 0)) (fun h => by rw [Bd.returns] at h; cases h)
  refine ⟨_, _, castTop (ef_prog_27_method_2_code_R m a1) ?_, hrun, hended, _, _, rfl, ?_, ⟨_, rfl⟩, hW, hsame.mono (own_ble rfl) (own_ble rfl)⟩
  · show Steps _ _ _ (s₁.setTop (mkF m 0 #[.val (.ref a1), .unset, .unset, .unset] [])) _
    refine XS.aloadN X0.here hx rfl (hB d24_0) rfl rfl ?_
    refine st478.trans ?_
    show Steps _ _ _ (T478.setTop (mkF m 4 #[.val (.ref a1), .unset, .unset, .unset] [.int nn])) _
    refine XS.istoreN X478.here hx rfl (hB d24_4) rfl (l' := #[.val (.ref a1), .val (.int nn), .unset, .unset]) rfl ?_
    refine XS.iloadN X478.here hx rfl (hB d24_5) rfl ?_
    refine XS.ifNo X478.here hx rfl (hB d24_6) rfl ((if0 _ _).trans (feq (z1 : ¬ (nn = (0 : Int32)))).1) ?_
    refine XS.iloadN X478.here hx rfl (hB d24_9) rfl ?_
    refine XS.bipush X478.here hx rfl (hB d24_10) ?_
    refine XS.icmpNo X478.here hx rfl (hB d24_12) rfl (flt (z2 : ¬ ((64 : Int32) < nn))).2.2.1 ?_
    refine XS.aloadN X478.here hx rfl (hB d24_15) rfl rfl ?_
    refine XS.iconst X478.here hx rfl (hB d24_16) ?_
    refine st479.trans ?_
    show Steps _ _ _ (T479.setTop (mkF m 20 #[.val (.ref a1), .val (.int nn), .unset, .unset] [.int d0])) _
    refine st480 _ ?_
    show Steps _ _ _ (T480.setTop (mkF m 23 #[.val (.ref a1), .val (.int nn), .unset, .unset] [(.int (own_letter d0))])) _
    refine XS.ifYes X480.here hx rfl (pc0 := 23) (pc' := 28) rfl (hB d24_23) rfl ((if0 _ _).trans (feq (hc23 : ¬ ((own_letter d0) = (0 : Int32)))).2) (by decide) (by decide) ?_
    refine XS.iconst X480.here hx rfl (hB d24_28) ?_
    refine XS.istoreN X480.here hx rfl (hB d24_29) rfl (l' := #[.val (.ref a1), .val (.int nn), .val (.int 1), .unset]) rfl ?_
    refine XS.iloadN X480.here hx rfl (hB d24_30) rfl ?_
    refine XS.iloadN X480.here hx rfl (hB d24_31) rfl ?_
    refine XS.icmpNo X480.here hx rfl (hB d24_32) rfl (tlt (t1 : (1 : Int32) < nn)).2.1 ?_
    refine XS.aloadN X480.here hx rfl (hB d24_35) rfl rfl ?_
    refine XS.iloadN X480.here hx rfl (hB d24_36) rfl ?_
    refine st481.trans ?_
    show Steps _ _ _ (T481.setTop (mkF m 40 #[.val (.ref a1), .val (.int nn), .val (.int 1), .unset] [.int d1])) _
    refine XS.istoreN X481.here hx rfl (hB d24_40) rfl (l' := #[.val (.ref a1), .val (.int nn), .val (.int 1), .val (.int d1)]) rfl ?_
    refine XS.iloadN X481.here hx rfl (hB d24_41) rfl ?_
    refine st482 _ ?_
    show Steps _ _ _ (T482.setTop (mkF m 45 #[.val (.ref a1), .val (.int nn), .val (.int 1), .val (.int d1)] [(.int (own_letter d1))])) _
    refine XS.ifNo X482.here hx rfl (hB d24_45) rfl ((if0 _ _).trans (teq (hc45 : (own_letter d1) = (0 : Int32))).2) ?_
    refine XS.iloadN X482.here hx rfl (hB d24_48) rfl ?_
    refine st483 _ ?_
    show Steps _ _ _ (T483.setTop (mkF m 52 #[.val (.ref a1), .val (.int nn), .val (.int 1), .val (.int d1)] [(.int (own_digit d1))])) _
    refine XS.ifNo X483.here hx rfl (hB d24_52) rfl ((if0 _ _).trans (teq (hc52 : (own_digit d1) = (0 : Int32))).2) ?_
    refine XS.iloadN X483.here hx rfl (hB d24_55) rfl ?_
    refine XS.bipush X483.here hx rfl (hB d24_56) ?_
    refine XS.icmpNo X483.here hx rfl (hB d24_58) rfl (feq (hc58 : ¬ (d1 = (95 : Int32)))).1 ?_
    refine XS.iconst X483.here hx rfl (hB d24_61) ?_
    exact retN X483 hx (t := .boolean) Bd.returns (by simp) (hB d24_62) hr
  · show Qisv Z G1 fm a1 b kb cd z vs cs nn h0 n0 _ T483.heap _
    rw [eq483]
    exact ⟨(by rw [hv]), N483, (Keep.refl h0 [])⟩
theorem rmisv_f2 (l : Launch) (Z : State) (a0 : Array Value) (G1 : Int32) (fm : Value) (hG : Glob Z a0 G1 fm) (ws : List Jvm.Cond) (a1 : Addr) (b : Addr) (kb : ClassId) (cd : Int32) (z : Int32) (vs : List Value) (cs : List Int32) (nn : Int32) (h0 : Heap) (n0 : Nat) (Z0 : n0 ≤ h0.size) (X00 : Old Z n0 h0) (E_a1 : Exa Z h0 a1 "java/lang/String") (F_coder_a1 : Fld Z h0 a1 "java/lang/String" "coder" "B" (.int cd)) (F_value_a1 : Fld Z h0 a1 "java/lang/String" "value" "[B" (.ref b)) (V_b : Arv Z h0 b kb .byte z vs (.int 0)) (hs : own_str cd z vs cs) (hn : cs.length < 5) (hu : ∀ c ∈ cs, own_u16 c) (en : nn = Int32.ofNat cs.length) (z1 : ¬ (nn = (0 : Int32))) (z2 : ¬ ((64 : Int32) < nn)) (d0 : Int32) (gd0 : cs[0]? = some d0) (d1 : Int32) (gd1 : cs[1]? = some d1) (t1 : (1 : Int32) < nn) (d2 : Int32) (gd2 : cs[2]? = some d2) (t2 : (2 : Int32) < nn) (w1 : ¬ own_word d1 = 0) (hv : own_valid cs = (0 : Int32)) (hc23 : ¬ ((own_letter d0) = (0 : Int32))) (hc45 : (own_letter d2) = (0 : Int32)) (hc52 : (own_digit d2) = (0 : Int32)) (hc58 : ¬ (d2 = (95 : Int32))) :
    Met l Z h0 y24 prog_27_method_2_code 4 (some .boolean) ws (Room.mk 5 0 0 66) #[.ref a1] (Qisv Z G1 fm a1 b kb cd z vs cs nn h0 n0) := by
  obtain ⟨hw, O_cs, P_cs, O_as, O_hi, O_lo, O_fm, R_fm⟩ := id hG
  have W := @own_W _ _ hw
  refine own_go "com/example/label_lattice/labellattice/Names" rfl (plainFor_of_name pn_com_example_label_lattice_labellattice_Names) ?_
  intro p e s m below meth c s₁ Bd hx hby hml hown hnm X0 e0 hZ
  have hB := @hb _ _ hby
  have N0 := Fr.nil n0
  obtain ⟨cq484, kq484, q484a, q484b, q484c⟩ := isOf hZ e0 E_a1
  -- pc 1: java/lang/String.length
  obtain ⟨_, _, ⟨T484, L484, k484, n484⟩, -, X484, ⟨Lc484, hQ484, l484, y484, z484⟩, st484⟩ := X0.virtualBack hx (y := y10) (z := y10) hown (mvT hZ (W 27 rfl)) (mvT hZ (W 28 rfl)) (notFace_of_selects (args := #[]) (mvT hZ (W 30 rfl))) (mvT hZ (W 30 rfl)) (mvT hZ (W 29 rfl)) (by decide) (backOf (W := 0) (rmsln l Z a0 G1 fm hG [] a1 b kb cd z vs cs nn h0 n0 Z0 X00 E_a1 F_coder_a1 F_value_a1 V_b hs hn en) hZ (W 31 rfl) (W 4 rfl) (by decide) (by decide)) q484a q484c (g := (mkF m 1 #[.val (.ref a1), .unset, .unset, .unset] [.ref a1])) rfl (by rw [hml]; rfl) (Steps.refl _) (argsL := []) (rest := []) (lenOf pd___I rfl) rfl (by show 2 * 0 + _ ≤ _; exact Nat.le_of_eq rfl) (hB d24_1) (fun _ _ => ⟨rfl, e0, (by decide : 0 + 0 ≤ _), (by decide : 0 + 0 ≤ _)⟩)
  dsimp only [Pt.U, Pt.locs, Pt.cells, Pt.slots] at X484 l484 y484 z484 st484 hQ484
  subst l484 y484 z484
  obtain ⟨rfl, N484q, eq484⟩ := hQ484
  have N484 := Fr.app N0 N484q
  obtain ⟨cq485, kq485, q485a, q485b, q485c⟩ := isOf hZ eq484 E_a1
  -- pc 17: java/lang/String.charAt
  obtain ⟨_, _, ⟨T485, L485, k485, n485⟩, -, X485, ⟨Lc485, hQ485, l485, y485, z485⟩, st485⟩ := X484.virtualBack hx (y := y11) (z := y11) hown (mvT hZ (W 52 rfl)) (mvT hZ (W 53 rfl)) (notFace_of_selects (args := #[]) (mvT hZ (W 55 rfl))) (mvT hZ (W 55 rfl)) (mvT hZ (W 54 rfl)) (by decide) (backOf (W := 0) (rmsca l Z a0 G1 fm hG [] a1 b kb cd z vs (0 : Int32) cs 0 d0 h0 n0 Z0 X00 E_a1 F_coder_a1 F_value_a1 V_b hs hn hu rfl gd0) hZ (W 56 rfl) (W 4 rfl) (by decide) (by decide)) q485a q485c (g := (mkF m 17 #[.val (.ref a1), .val (.int nn), .unset, .unset] [.int 0, .ref a1])) rfl (by rw [hml]; rfl) (Steps.refl _) (argsL := [.int 0]) (rest := []) (lenOf pd__I_C rfl) rfl (by show 2 * 0 + _ ≤ _; exact Nat.le_of_eq rfl) (hB d24_17) (fun _ _ => ⟨rfl, eq484, (by decide : 0 + 0 ≤ _), (by decide : 0 + 0 ≤ _)⟩)
  dsimp only [Pt.U, Pt.locs, Pt.cells, Pt.slots] at X485 l485 y485 z485 st485 hQ485
  subst l485 y485 z485
  obtain ⟨rfl, N485q, eq485⟩ := hQ485
  have N485 := Fr.app N484 N485q
  -- pc 20: com/example/label_lattice/labellattice/Names.isAsciiLetter
  obtain ⟨_, _, ⟨T486, L486, k486, n486⟩, -, X486, ⟨Lc486, hQ486, l486, y486, z486⟩, st486⟩ := Jvm.LawKit.callS X485 hx (y := y20) hown (mvT hZ (W 74 rfl)) (mvT hZ (W 75 rfl)) (mvT hZ (W 25 rfl)) (mvT hZ (W 76 rfl)) (by decide) (backOf (W := 0) (rmial l Z a0 G1 fm hG [] d0 h0 n0 Z0 X00) hZ (W 76 rfl) (W 25 rfl) (by decide) (by decide)) (g := (mkF m 20 #[.val (.ref a1), .val (.int nn), .unset, .unset] [.int d0])) rfl (by rw [hml]; rfl) (argsL := [.int d0]) (rest := []) (lenOf pd__C_Z rfl) rfl (by show 2 * 0 + _ ≤ _; exact Nat.le_of_eq rfl) (hB d24_20) (fun _ _ => ⟨rfl, eq485, (by decide : 0 + 0 ≤ _), (by decide : 0 + 0 ≤ _)⟩)
  dsimp only [Pt.U, Pt.locs, Pt.cells, Pt.slots] at X486 l486 y486 z486 st486 hQ486
  subst l486 y486 z486
  obtain ⟨rfl, N486q, eq486⟩ := hQ486
  have N486 := Fr.app N485 N486q
  obtain ⟨T487, L487, X487, N487, K487, st487⟩ := sgtn1 Z a0 G1 fm hG a1 b kb cd z vs cs nn d1 h0 n0 Z0 X00 E_a1 F_coder_a1 F_value_a1 V_b hs hn hu en t1 gd1 w1 X486 hx hZ hby hml hown eq486 N486
  have Z488 : n0 ≤ T487.heap.size := Nat.le_trans Z0 K487.1
  have K0_488 : Keep h0 T487.heap [] := (Keep.refl h0 []).trans K487 all0
  have O488 : Old Z n0 T487.heap := X00.keep K487 all0
  have f490 := (E_a1.keep K487)
  have f491 := (F_coder_a1.keep K487 nin0)
  have f492 := (F_value_a1.keep K487 nin0)
  have f493 := (V_b.keep K487 nin0)
  obtain ⟨cq489, kq489, q489a, q489b, q489c⟩ := isOf hZ rfl f490
  -- pc 37: java/lang/String.charAt
  obtain ⟨_, _, ⟨T489, L489, k489, n489⟩, -, X489, ⟨Lc489, hQ489, l489, y489, z489⟩, st489⟩ := X487.virtualBack hx (y := y11) (z := y11) hown (mvT hZ (W 52 rfl)) (mvT hZ (W 53 rfl)) (notFace_of_selects (args := #[]) (mvT hZ (W 55 rfl))) (mvT hZ (W 55 rfl)) (mvT hZ (W 54 rfl)) (by decide) (backOf (W := 0) (rmsca l Z a0 G1 fm hG [] a1 b kb cd z vs (2 : Int32) cs 2 d2 T487.heap n0 Z488 O488 f490 f491 f492 f493 hs hn hu rfl gd2) hZ (W 56 rfl) (W 4 rfl) (by decide) (by decide)) q489a q489c (g := (mkF m 37 #[.val (.ref a1), .val (.int nn), .val (.int 2), .val (.int d1)] [.int 2, .ref a1])) rfl (by rw [hml]; rfl) (Steps.refl _) (argsL := [.int 2]) (rest := []) (lenOf pd__I_C rfl) rfl (by show 2 * 0 + _ ≤ _; exact Nat.le_of_eq rfl) (hB d24_37) (fun _ _ => ⟨rfl, rfl, (by decide : 0 + 0 ≤ _), (by decide : 0 + 0 ≤ _)⟩)
  dsimp only [Pt.U, Pt.locs, Pt.cells, Pt.slots] at X489 l489 y489 z489 st489 hQ489
  subst l489 y489 z489
  obtain ⟨rfl, N489q, eq489⟩ := hQ489
  have N489 := Fr.app N487 N489q
  -- pc 42: com/example/label_lattice/labellattice/Names.isAsciiLetter
  obtain ⟨_, _, ⟨T494, L494, k494, n494⟩, -, X494, ⟨Lc494, hQ494, l494, y494, z494⟩, st494⟩ := Jvm.LawKit.callS X489 hx (y := y20) hown (mvT hZ (W 74 rfl)) (mvT hZ (W 75 rfl)) (mvT hZ (W 25 rfl)) (mvT hZ (W 76 rfl)) (by decide) (backOf (W := 0) (rmial l Z a0 G1 fm hG [] d2 T487.heap n0 Z488 O488) hZ (W 76 rfl) (W 25 rfl) (by decide) (by decide)) (g := (mkF m 42 #[.val (.ref a1), .val (.int nn), .val (.int 2), .val (.int d2)] [.int d2])) rfl (by rw [hml]; rfl) (argsL := [.int d2]) (rest := []) (lenOf pd__C_Z rfl) rfl (by show 2 * 0 + _ ≤ _; exact Nat.le_of_eq rfl) (hB d24_42) (fun _ _ => ⟨rfl, eq489, (by decide : 0 + 0 ≤ _), (by decide : 0 + 0 ≤ _)⟩)
  dsimp only [Pt.U, Pt.locs, Pt.cells, Pt.slots] at X494 l494 y494 z494 st494 hQ494
  subst l494 y494 z494
  obtain ⟨rfl, N494q, eq494⟩ := hQ494
  have N494 := Fr.app N489 N494q
  -- pc 49: com/example/label_lattice/labellattice/Names.isAsciiDigit
  obtain ⟨_, _, ⟨T495, L495, k495, n495⟩, -, X495, ⟨Lc495, hQ495, l495, y495, z495⟩, st495⟩ := Jvm.LawKit.callS X494 hx (y := y22) hown (mvT hZ (W 80 rfl)) (mvT hZ (W 81 rfl)) (mvT hZ (W 25 rfl)) (mvT hZ (W 82 rfl)) (by decide) (backOf (W := 0) (rmiad l Z a0 G1 fm hG [] d2 T487.heap n0 Z488 O488) hZ (W 82 rfl) (W 25 rfl) (by decide) (by decide)) (g := (mkF m 49 #[.val (.ref a1), .val (.int nn), .val (.int 2), .val (.int d2)] [.int d2])) rfl (by rw [hml]; rfl) (argsL := [.int d2]) (rest := []) (lenOf pd__C_Z rfl) rfl (by show 2 * 0 + _ ≤ _; exact Nat.le_of_eq rfl) (hB d24_49) (fun _ _ => ⟨rfl, eq494, (by decide : 0 + 0 ≤ _), (by decide : 0 + 0 ≤ _)⟩)
  dsimp only [Pt.U, Pt.locs, Pt.cells, Pt.slots] at X495 l495 y495 z495 st495 hQ495
  subst l495 y495 z495
  obtain ⟨rfl, N495q, eq495⟩ := hQ495
  have N495 := Fr.app N494 N495q
  obtain ⟨fs, hr, hrun, hended, hW, hsame⟩ := X495.leave (v := some (.int 0)) (fun h => by rw [Bd.returns] at h; cases h)
  refine ⟨_, _, castTop (ef_prog_27_method_2_code_R m a1) ?_, hrun, hended, _, _, rfl, ?_, ⟨_, rfl⟩, hW, hsame.mono (own_ble rfl) (own_ble rfl)⟩
  · show Steps _ _ _ (s₁.setTop (mkF m 0 #[.val (.ref a1), .unset, .unset, .unset] [])) _
    refine XS.aloadN X0.here hx rfl (hB d24_0) rfl rfl ?_
    refine st484.trans ?_
    show Steps _ _ _ (T484.setTop (mkF m 4 #[.val (.ref a1), .unset, .unset, .unset] [.int nn])) _
    refine XS.istoreN X484.here hx rfl (hB d24_4) rfl (l' := #[.val (.ref a1), .val (.int nn), .unset, .unset]) rfl ?_
    refine XS.iloadN X484.here hx rfl (hB d24_5) rfl ?_
    refine XS.ifNo X484.here hx rfl (hB d24_6) rfl ((if0 _ _).trans (feq (z1 : ¬ (nn = (0 : Int32)))).1) ?_
    refine XS.iloadN X484.here hx rfl (hB d24_9) rfl ?_
    refine XS.bipush X484.here hx rfl (hB d24_10) ?_
    refine XS.icmpNo X484.here hx rfl (hB d24_12) rfl (flt (z2 : ¬ ((64 : Int32) < nn))).2.2.1 ?_
    refine XS.aloadN X484.here hx rfl (hB d24_15) rfl rfl ?_
    refine XS.iconst X484.here hx rfl (hB d24_16) ?_
    refine st485.trans ?_
    show Steps _ _ _ (T485.setTop (mkF m 20 #[.val (.ref a1), .val (.int nn), .unset, .unset] [.int d0])) _
    refine st486 _ ?_
    show Steps _ _ _ (T486.setTop (mkF m 23 #[.val (.ref a1), .val (.int nn), .unset, .unset] [(.int (own_letter d0))])) _
    refine XS.ifYes X486.here hx rfl (pc0 := 23) (pc' := 28) rfl (hB d24_23) rfl ((if0 _ _).trans (feq (hc23 : ¬ ((own_letter d0) = (0 : Int32)))).2) (by decide) (by decide) ?_
    refine XS.iconst X486.here hx rfl (hB d24_28) ?_
    refine XS.istoreN X486.here hx rfl (hB d24_29) rfl (l' := #[.val (.ref a1), .val (.int nn), .val (.int 1), .unset]) rfl ?_
    show Steps _ _ _ (T486.setTop (mkF m 30 #[.val (.ref a1), .val (.int nn), .val (.int 1), .unset] [])) _
    refine st487 _ ?_
    show Steps _ _ _ (T487.setTop (mkF m 30 #[.val (.ref a1), .val (.int nn), .val (.int 2), .val (.int d1)] [])) _
    refine XS.iloadN X487.here hx rfl (hB d24_30) rfl ?_
    refine XS.iloadN X487.here hx rfl (hB d24_31) rfl ?_
    refine XS.icmpNo X487.here hx rfl (hB d24_32) rfl (tlt (t2 : (2 : Int32) < nn)).2.1 ?_
    refine XS.aloadN X487.here hx rfl (hB d24_35) rfl rfl ?_
    refine XS.iloadN X487.here hx rfl (hB d24_36) rfl ?_
    refine st489.trans ?_
    show Steps _ _ _ (T489.setTop (mkF m 40 #[.val (.ref a1), .val (.int nn), .val (.int 2), .val (.int d1)] [.int d2])) _
    refine XS.istoreN X489.here hx rfl (hB d24_40) rfl (l' := #[.val (.ref a1), .val (.int nn), .val (.int 2), .val (.int d2)]) rfl ?_
    refine XS.iloadN X489.here hx rfl (hB d24_41) rfl ?_
    refine st494 _ ?_
    show Steps _ _ _ (T494.setTop (mkF m 45 #[.val (.ref a1), .val (.int nn), .val (.int 2), .val (.int d2)] [(.int (own_letter d2))])) _
    refine XS.ifNo X494.here hx rfl (hB d24_45) rfl ((if0 _ _).trans (teq (hc45 : (own_letter d2) = (0 : Int32))).2) ?_
    refine XS.iloadN X494.here hx rfl (hB d24_48) rfl ?_
    refine st495 _ ?_
    show Steps _ _ _ (T495.setTop (mkF m 52 #[.val (.ref a1), .val (.int nn), .val (.int 2), .val (.int d2)] [(.int (own_digit d2))])) _
    refine XS.ifNo X495.here hx rfl (hB d24_52) rfl ((if0 _ _).trans (teq (hc52 : (own_digit d2) = (0 : Int32))).2) ?_
    refine XS.iloadN X495.here hx rfl (hB d24_55) rfl ?_
    refine XS.bipush X495.here hx rfl (hB d24_56) ?_
    refine XS.icmpNo X495.here hx rfl (hB d24_58) rfl (feq (hc58 : ¬ (d2 = (95 : Int32)))).1 ?_
    refine XS.iconst X495.here hx rfl (hB d24_61) ?_
    exact retN X495 hx (t := .boolean) Bd.returns (by simp) (hB d24_62) hr
  · show Qisv Z G1 fm a1 b kb cd z vs cs nn h0 n0 _ T495.heap _
    rw [eq495]
    exact ⟨(by rw [hv]), N495, K0_488⟩
theorem rmisv_f3 (l : Launch) (Z : State) (a0 : Array Value) (G1 : Int32) (fm : Value) (hG : Glob Z a0 G1 fm) (ws : List Jvm.Cond) (a1 : Addr) (b : Addr) (kb : ClassId) (cd : Int32) (z : Int32) (vs : List Value) (cs : List Int32) (nn : Int32) (h0 : Heap) (n0 : Nat) (Z0 : n0 ≤ h0.size) (X00 : Old Z n0 h0) (E_a1 : Exa Z h0 a1 "java/lang/String") (F_coder_a1 : Fld Z h0 a1 "java/lang/String" "coder" "B" (.int cd)) (F_value_a1 : Fld Z h0 a1 "java/lang/String" "value" "[B" (.ref b)) (V_b : Arv Z h0 b kb .byte z vs (.int 0)) (hs : own_str cd z vs cs) (hn : cs.length < 5) (hu : ∀ c ∈ cs, own_u16 c) (en : nn = Int32.ofNat cs.length) (z1 : ¬ (nn = (0 : Int32))) (z2 : ¬ ((64 : Int32) < nn)) (d0 : Int32) (gd0 : cs[0]? = some d0) (d1 : Int32) (gd1 : cs[1]? = some d1) (t1 : (1 : Int32) < nn) (d2 : Int32) (gd2 : cs[2]? = some d2) (t2 : (2 : Int32) < nn) (d3 : Int32) (gd3 : cs[3]? = some d3) (t3 : (3 : Int32) < nn) (w1 : ¬ own_word d1 = 0) (w2 : ¬ own_word d2 = 0) (hv : own_valid cs = (0 : Int32)) (hc23 : ¬ ((own_letter d0) = (0 : Int32))) (hc45 : (own_letter d3) = (0 : Int32)) (hc52 : (own_digit d3) = (0 : Int32)) (hc58 : ¬ (d3 = (95 : Int32))) :
    Met l Z h0 y24 prog_27_method_2_code 4 (some .boolean) ws (Room.mk 5 0 0 66) #[.ref a1] (Qisv Z G1 fm a1 b kb cd z vs cs nn h0 n0) := by
  obtain ⟨hw, O_cs, P_cs, O_as, O_hi, O_lo, O_fm, R_fm⟩ := id hG
  have W := @own_W _ _ hw
  refine own_go "com/example/label_lattice/labellattice/Names" rfl (plainFor_of_name pn_com_example_label_lattice_labellattice_Names) ?_
  intro p e s m below meth c s₁ Bd hx hby hml hown hnm X0 e0 hZ
  have hB := @hb _ _ hby
  have N0 := Fr.nil n0
  obtain ⟨cq496, kq496, q496a, q496b, q496c⟩ := isOf hZ e0 E_a1
  -- pc 1: java/lang/String.length
  obtain ⟨_, _, ⟨T496, L496, k496, n496⟩, -, X496, ⟨Lc496, hQ496, l496, y496, z496⟩, st496⟩ := X0.virtualBack hx (y := y10) (z := y10) hown (mvT hZ (W 27 rfl)) (mvT hZ (W 28 rfl)) (notFace_of_selects (args := #[]) (mvT hZ (W 30 rfl))) (mvT hZ (W 30 rfl)) (mvT hZ (W 29 rfl)) (by decide) (backOf (W := 0) (rmsln l Z a0 G1 fm hG [] a1 b kb cd z vs cs nn h0 n0 Z0 X00 E_a1 F_coder_a1 F_value_a1 V_b hs hn en) hZ (W 31 rfl) (W 4 rfl) (by decide) (by decide)) q496a q496c (g := (mkF m 1 #[.val (.ref a1), .unset, .unset, .unset] [.ref a1])) rfl (by rw [hml]; rfl) (Steps.refl _) (argsL := []) (rest := []) (lenOf pd___I rfl) rfl (by show 2 * 0 + _ ≤ _; exact Nat.le_of_eq rfl) (hB d24_1) (fun _ _ => ⟨rfl, e0, (by decide : 0 + 0 ≤ _), (by decide : 0 + 0 ≤ _)⟩)
  dsimp only [Pt.U, Pt.locs, Pt.cells, Pt.slots] at X496 l496 y496 z496 st496 hQ496
  subst l496 y496 z496
  obtain ⟨rfl, N496q, eq496⟩ := hQ496
  have N496 := Fr.app N0 N496q
  obtain ⟨cq497, kq497, q497a, q497b, q497c⟩ := isOf hZ eq496 E_a1
  -- pc 17: java/lang/String.charAt
  obtain ⟨_, _, ⟨T497, L497, k497, n497⟩, -, X497, ⟨Lc497, hQ497, l497, y497, z497⟩, st497⟩ := X496.virtualBack hx (y := y11) (z := y11) hown (mvT hZ (W 52 rfl)) (mvT hZ (W 53 rfl)) (notFace_of_selects (args := #[]) (mvT hZ (W 55 rfl))) (mvT hZ (W 55 rfl)) (mvT hZ (W 54 rfl)) (by decide) (backOf (W := 0) (rmsca l Z a0 G1 fm hG [] a1 b kb cd z vs (0 : Int32) cs 0 d0 h0 n0 Z0 X00 E_a1 F_coder_a1 F_value_a1 V_b hs hn hu rfl gd0) hZ (W 56 rfl) (W 4 rfl) (by decide) (by decide)) q497a q497c (g := (mkF m 17 #[.val (.ref a1), .val (.int nn), .unset, .unset] [.int 0, .ref a1])) rfl (by rw [hml]; rfl) (Steps.refl _) (argsL := [.int 0]) (rest := []) (lenOf pd__I_C rfl) rfl (by show 2 * 0 + _ ≤ _; exact Nat.le_of_eq rfl) (hB d24_17) (fun _ _ => ⟨rfl, eq496, (by decide : 0 + 0 ≤ _), (by decide : 0 + 0 ≤ _)⟩)
  dsimp only [Pt.U, Pt.locs, Pt.cells, Pt.slots] at X497 l497 y497 z497 st497 hQ497
  subst l497 y497 z497
  obtain ⟨rfl, N497q, eq497⟩ := hQ497
  have N497 := Fr.app N496 N497q
  -- pc 20: com/example/label_lattice/labellattice/Names.isAsciiLetter
  obtain ⟨_, _, ⟨T498, L498, k498, n498⟩, -, X498, ⟨Lc498, hQ498, l498, y498, z498⟩, st498⟩ := Jvm.LawKit.callS X497 hx (y := y20) hown (mvT hZ (W 74 rfl)) (mvT hZ (W 75 rfl)) (mvT hZ (W 25 rfl)) (mvT hZ (W 76 rfl)) (by decide) (backOf (W := 0) (rmial l Z a0 G1 fm hG [] d0 h0 n0 Z0 X00) hZ (W 76 rfl) (W 25 rfl) (by decide) (by decide)) (g := (mkF m 20 #[.val (.ref a1), .val (.int nn), .unset, .unset] [.int d0])) rfl (by rw [hml]; rfl) (argsL := [.int d0]) (rest := []) (lenOf pd__C_Z rfl) rfl (by show 2 * 0 + _ ≤ _; exact Nat.le_of_eq rfl) (hB d24_20) (fun _ _ => ⟨rfl, eq497, (by decide : 0 + 0 ≤ _), (by decide : 0 + 0 ≤ _)⟩)
  dsimp only [Pt.U, Pt.locs, Pt.cells, Pt.slots] at X498 l498 y498 z498 st498 hQ498
  subst l498 y498 z498
  obtain ⟨rfl, N498q, eq498⟩ := hQ498
  have N498 := Fr.app N497 N498q
  obtain ⟨T499, L499, X499, N499, K499, st499⟩ := sgtn1 Z a0 G1 fm hG a1 b kb cd z vs cs nn d1 h0 n0 Z0 X00 E_a1 F_coder_a1 F_value_a1 V_b hs hn hu en t1 gd1 w1 X498 hx hZ hby hml hown eq498 N498
  have Z500 : n0 ≤ T499.heap.size := Nat.le_trans Z0 K499.1
  have K0_500 : Keep h0 T499.heap [] := (Keep.refl h0 []).trans K499 all0
  have O500 : Old Z n0 T499.heap := X00.keep K499 all0
  have f502 := (E_a1.keep K499)
  have f503 := (F_coder_a1.keep K499 nin0)
  have f504 := (F_value_a1.keep K499 nin0)
  have f505 := (V_b.keep K499 nin0)
  obtain ⟨T501, L501, X501, N501, K501, st501⟩ := sgtn2 Z a0 G1 fm hG a1 b kb cd z vs cs nn d2 d1 T499.heap n0 Z500 O500 f502 f503 f504 f505 hs hn hu en t2 gd2 w2 X499 hx hZ hby hml hown rfl N499
  have Z506 : n0 ≤ T501.heap.size := Nat.le_trans Z500 K501.1
  have K0_506 : Keep h0 T501.heap [] := K0_500.trans K501 all0
  have O506 : Old Z n0 T501.heap := O500.keep K501 all0
  have f508 := (f502.keep K501)
  have f509 := (f503.keep K501 nin0)
  have f510 := (f504.keep K501 nin0)
  have f511 := (f505.keep K501 nin0)
  obtain ⟨cq507, kq507, q507a, q507b, q507c⟩ := isOf hZ rfl f508
  -- pc 37: java/lang/String.charAt
  obtain ⟨_, _, ⟨T507, L507, k507, n507⟩, -, X507, ⟨Lc507, hQ507, l507, y507, z507⟩, st507⟩ := X501.virtualBack hx (y := y11) (z := y11) hown (mvT hZ (W 52 rfl)) (mvT hZ (W 53 rfl)) (notFace_of_selects (args := #[]) (mvT hZ (W 55 rfl))) (mvT hZ (W 55 rfl)) (mvT hZ (W 54 rfl)) (by decide) (backOf (W := 0) (rmsca l Z a0 G1 fm hG [] a1 b kb cd z vs (3 : Int32) cs 3 d3 T501.heap n0 Z506 O506 f508 f509 f510 f511 hs hn hu rfl gd3) hZ (W 56 rfl) (W 4 rfl) (by decide) (by decide)) q507a q507c (g := (mkF m 37 #[.val (.ref a1), .val (.int nn), .val (.int 3), .val (.int d2)] [.int 3, .ref a1])) rfl (by rw [hml]; rfl) (Steps.refl _) (argsL := [.int 3]) (rest := []) (lenOf pd__I_C rfl) rfl (by show 2 * 0 + _ ≤ _; exact Nat.le_of_eq rfl) (hB d24_37) (fun _ _ => ⟨rfl, rfl, (by decide : 0 + 0 ≤ _), (by decide : 0 + 0 ≤ _)⟩)
  dsimp only [Pt.U, Pt.locs, Pt.cells, Pt.slots] at X507 l507 y507 z507 st507 hQ507
  subst l507 y507 z507
  obtain ⟨rfl, N507q, eq507⟩ := hQ507
  have N507 := Fr.app N501 N507q
  -- pc 42: com/example/label_lattice/labellattice/Names.isAsciiLetter
  obtain ⟨_, _, ⟨T512, L512, k512, n512⟩, -, X512, ⟨Lc512, hQ512, l512, y512, z512⟩, st512⟩ := Jvm.LawKit.callS X507 hx (y := y20) hown (mvT hZ (W 74 rfl)) (mvT hZ (W 75 rfl)) (mvT hZ (W 25 rfl)) (mvT hZ (W 76 rfl)) (by decide) (backOf (W := 0) (rmial l Z a0 G1 fm hG [] d3 T501.heap n0 Z506 O506) hZ (W 76 rfl) (W 25 rfl) (by decide) (by decide)) (g := (mkF m 42 #[.val (.ref a1), .val (.int nn), .val (.int 3), .val (.int d3)] [.int d3])) rfl (by rw [hml]; rfl) (argsL := [.int d3]) (rest := []) (lenOf pd__C_Z rfl) rfl (by show 2 * 0 + _ ≤ _; exact Nat.le_of_eq rfl) (hB d24_42) (fun _ _ => ⟨rfl, eq507, (by decide : 0 + 0 ≤ _), (by decide : 0 + 0 ≤ _)⟩)
  dsimp only [Pt.U, Pt.locs, Pt.cells, Pt.slots] at X512 l512 y512 z512 st512 hQ512
  subst l512 y512 z512
  obtain ⟨rfl, N512q, eq512⟩ := hQ512
  have N512 := Fr.app N507 N512q
  -- pc 49: com/example/label_lattice/labellattice/Names.isAsciiDigit
  obtain ⟨_, _, ⟨T513, L513, k513, n513⟩, -, X513, ⟨Lc513, hQ513, l513, y513, z513⟩, st513⟩ := Jvm.LawKit.callS X512 hx (y := y22) hown (mvT hZ (W 80 rfl)) (mvT hZ (W 81 rfl)) (mvT hZ (W 25 rfl)) (mvT hZ (W 82 rfl)) (by decide) (backOf (W := 0) (rmiad l Z a0 G1 fm hG [] d3 T501.heap n0 Z506 O506) hZ (W 82 rfl) (W 25 rfl) (by decide) (by decide)) (g := (mkF m 49 #[.val (.ref a1), .val (.int nn), .val (.int 3), .val (.int d3)] [.int d3])) rfl (by rw [hml]; rfl) (argsL := [.int d3]) (rest := []) (lenOf pd__C_Z rfl) rfl (by show 2 * 0 + _ ≤ _; exact Nat.le_of_eq rfl) (hB d24_49) (fun _ _ => ⟨rfl, eq512, (by decide : 0 + 0 ≤ _), (by decide : 0 + 0 ≤ _)⟩)
  dsimp only [Pt.U, Pt.locs, Pt.cells, Pt.slots] at X513 l513 y513 z513 st513 hQ513
  subst l513 y513 z513
  obtain ⟨rfl, N513q, eq513⟩ := hQ513
  have N513 := Fr.app N512 N513q
  obtain ⟨fs, hr, hrun, hended, hW, hsame⟩ := X513.leave (v := some (.int 0)) (fun h => by rw [Bd.returns] at h; cases h)
  refine ⟨_, _, castTop (ef_prog_27_method_2_code_R m a1) ?_, hrun, hended, _, _, rfl, ?_, ⟨_, rfl⟩, hW, hsame.mono (own_ble rfl) (own_ble rfl)⟩
  · show Steps _ _ _ (s₁.setTop (mkF m 0 #[.val (.ref a1), .unset, .unset, .unset] [])) _
    refine XS.aloadN X0.here hx rfl (hB d24_0) rfl rfl ?_
    refine st496.trans ?_
    show Steps _ _ _ (T496.setTop (mkF m 4 #[.val (.ref a1), .unset, .unset, .unset] [.int nn])) _
    refine XS.istoreN X496.here hx rfl (hB d24_4) rfl (l' := #[.val (.ref a1), .val (.int nn), .unset, .unset]) rfl ?_
    refine XS.iloadN X496.here hx rfl (hB d24_5) rfl ?_
    refine XS.ifNo X496.here hx rfl (hB d24_6) rfl ((if0 _ _).trans (feq (z1 : ¬ (nn = (0 : Int32)))).1) ?_
    refine XS.iloadN X496.here hx rfl (hB d24_9) rfl ?_
    refine XS.bipush X496.here hx rfl (hB d24_10) ?_
    refine XS.icmpNo X496.here hx rfl (hB d24_12) rfl (flt (z2 : ¬ ((64 : Int32) < nn))).2.2.1 ?_
    refine XS.aloadN X496.here hx rfl (hB d24_15) rfl rfl ?_
    refine XS.iconst X496.here hx rfl (hB d24_16) ?_
    refine st497.trans ?_
    show Steps _ _ _ (T497.setTop (mkF m 20 #[.val (.ref a1), .val (.int nn), .unset, .unset] [.int d0])) _
    refine st498 _ ?_
    show Steps _ _ _ (T498.setTop (mkF m 23 #[.val (.ref a1), .val (.int nn), .unset, .unset] [(.int (own_letter d0))])) _
    refine XS.ifYes X498.here hx rfl (pc0 := 23) (pc' := 28) rfl (hB d24_23) rfl ((if0 _ _).trans (feq (hc23 : ¬ ((own_letter d0) = (0 : Int32)))).2) (by decide) (by decide) ?_
    refine XS.iconst X498.here hx rfl (hB d24_28) ?_
    refine XS.istoreN X498.here hx rfl (hB d24_29) rfl (l' := #[.val (.ref a1), .val (.int nn), .val (.int 1), .unset]) rfl ?_
    show Steps _ _ _ (T498.setTop (mkF m 30 #[.val (.ref a1), .val (.int nn), .val (.int 1), .unset] [])) _
    refine st499 _ ?_
    show Steps _ _ _ (T499.setTop (mkF m 30 #[.val (.ref a1), .val (.int nn), .val (.int 2), .val (.int d1)] [])) _
    refine st501 _ ?_
    show Steps _ _ _ (T501.setTop (mkF m 30 #[.val (.ref a1), .val (.int nn), .val (.int 3), .val (.int d2)] [])) _
    refine XS.iloadN X501.here hx rfl (hB d24_30) rfl ?_
    refine XS.iloadN X501.here hx rfl (hB d24_31) rfl ?_
    refine XS.icmpNo X501.here hx rfl (hB d24_32) rfl (tlt (t3 : (3 : Int32) < nn)).2.1 ?_
    refine XS.aloadN X501.here hx rfl (hB d24_35) rfl rfl ?_
    refine XS.iloadN X501.here hx rfl (hB d24_36) rfl ?_
    refine st507.trans ?_
    show Steps _ _ _ (T507.setTop (mkF m 40 #[.val (.ref a1), .val (.int nn), .val (.int 3), .val (.int d2)] [.int d3])) _
    refine XS.istoreN X507.here hx rfl (hB d24_40) rfl (l' := #[.val (.ref a1), .val (.int nn), .val (.int 3), .val (.int d3)]) rfl ?_
    refine XS.iloadN X507.here hx rfl (hB d24_41) rfl ?_
    refine st512 _ ?_
    show Steps _ _ _ (T512.setTop (mkF m 45 #[.val (.ref a1), .val (.int nn), .val (.int 3), .val (.int d3)] [(.int (own_letter d3))])) _
    refine XS.ifNo X512.here hx rfl (hB d24_45) rfl ((if0 _ _).trans (teq (hc45 : (own_letter d3) = (0 : Int32))).2) ?_
    refine XS.iloadN X512.here hx rfl (hB d24_48) rfl ?_
    refine st513 _ ?_
    show Steps _ _ _ (T513.setTop (mkF m 52 #[.val (.ref a1), .val (.int nn), .val (.int 3), .val (.int d3)] [(.int (own_digit d3))])) _
    refine XS.ifNo X513.here hx rfl (hB d24_52) rfl ((if0 _ _).trans (teq (hc52 : (own_digit d3) = (0 : Int32))).2) ?_
    refine XS.iloadN X513.here hx rfl (hB d24_55) rfl ?_
    refine XS.bipush X513.here hx rfl (hB d24_56) ?_
    refine XS.icmpNo X513.here hx rfl (hB d24_58) rfl (feq (hc58 : ¬ (d3 = (95 : Int32)))).1 ?_
    refine XS.iconst X513.here hx rfl (hB d24_61) ?_
    exact retN X513 hx (t := .boolean) Bd.returns (by simp) (hB d24_62) hr
  · show Qisv Z G1 fm a1 b kb cd z vs cs nn h0 n0 _ T513.heap _
    rw [eq513]
    exact ⟨(by rw [hv]), N513, K0_506⟩
theorem rmisv_o1 (l : Launch) (Z : State) (a0 : Array Value) (G1 : Int32) (fm : Value) (hG : Glob Z a0 G1 fm) (ws : List Jvm.Cond) (a1 : Addr) (b : Addr) (kb : ClassId) (cd : Int32) (z : Int32) (vs : List Value) (cs : List Int32) (nn : Int32) (h0 : Heap) (n0 : Nat) (Z0 : n0 ≤ h0.size) (X00 : Old Z n0 h0) (E_a1 : Exa Z h0 a1 "java/lang/String") (F_coder_a1 : Fld Z h0 a1 "java/lang/String" "coder" "B" (.int cd)) (F_value_a1 : Fld Z h0 a1 "java/lang/String" "value" "[B" (.ref b)) (V_b : Arv Z h0 b kb .byte z vs (.int 0)) (hs : own_str cd z vs cs) (hn : cs.length < 5) (hu : ∀ c ∈ cs, own_u16 c) (en : nn = Int32.ofNat cs.length) (z1 : ¬ (nn = (0 : Int32))) (z2 : ¬ ((64 : Int32) < nn)) (d0 : Int32) (gd0 : cs[0]? = some d0) (te : ¬ ((1 : Int32) < nn)) (hv : own_valid cs = (1 : Int32)) (hc23 : ¬ ((own_letter d0) = (0 : Int32))) :
    Met l Z h0 y24 prog_27_method_2_code 4 (some .boolean) ws (Room.mk 5 0 0 66) #[.ref a1] (Qisv Z G1 fm a1 b kb cd z vs cs nn h0 n0) := by
  obtain ⟨hw, O_cs, P_cs, O_as, O_hi, O_lo, O_fm, R_fm⟩ := id hG
  have W := @own_W _ _ hw
  refine own_go "com/example/label_lattice/labellattice/Names" rfl (plainFor_of_name pn_com_example_label_lattice_labellattice_Names) ?_
  intro p e s m below meth c s₁ Bd hx hby hml hown hnm X0 e0 hZ
  have hB := @hb _ _ hby
  have N0 := Fr.nil n0
  obtain ⟨cq514, kq514, q514a, q514b, q514c⟩ := isOf hZ e0 E_a1
  -- pc 1: java/lang/String.length
  obtain ⟨_, _, ⟨T514, L514, k514, n514⟩, -, X514, ⟨Lc514, hQ514, l514, y514, z514⟩, st514⟩ := X0.virtualBack hx (y := y10) (z := y10) hown (mvT hZ (W 27 rfl)) (mvT hZ (W 28 rfl)) (notFace_of_selects (args := #[]) (mvT hZ (W 30 rfl))) (mvT hZ (W 30 rfl)) (mvT hZ (W 29 rfl)) (by decide) (backOf (W := 0) (rmsln l Z a0 G1 fm hG [] a1 b kb cd z vs cs nn h0 n0 Z0 X00 E_a1 F_coder_a1 F_value_a1 V_b hs hn en) hZ (W 31 rfl) (W 4 rfl) (by decide) (by decide)) q514a q514c (g := (mkF m 1 #[.val (.ref a1), .unset, .unset, .unset] [.ref a1])) rfl (by rw [hml]; rfl) (Steps.refl _) (argsL := []) (rest := []) (lenOf pd___I rfl) rfl (by show 2 * 0 + _ ≤ _; exact Nat.le_of_eq rfl) (hB d24_1) (fun _ _ => ⟨rfl, e0, (by decide : 0 + 0 ≤ _), (by decide : 0 + 0 ≤ _)⟩)
  dsimp only [Pt.U, Pt.locs, Pt.cells, Pt.slots] at X514 l514 y514 z514 st514 hQ514
  subst l514 y514 z514
  obtain ⟨rfl, N514q, eq514⟩ := hQ514
  have N514 := Fr.app N0 N514q
  obtain ⟨cq515, kq515, q515a, q515b, q515c⟩ := isOf hZ eq514 E_a1
  -- pc 17: java/lang/String.charAt
  obtain ⟨_, _, ⟨T515, L515, k515, n515⟩, -, X515, ⟨Lc515, hQ515, l515, y515, z515⟩, st515⟩ := X514.virtualBack hx (y := y11) (z := y11) hown (mvT hZ (W 52 rfl)) (mvT hZ (W 53 rfl)) (notFace_of_selects (args := #[]) (mvT hZ (W 55 rfl))) (mvT hZ (W 55 rfl)) (mvT hZ (W 54 rfl)) (by decide) (backOf (W := 0) (rmsca l Z a0 G1 fm hG [] a1 b kb cd z vs (0 : Int32) cs 0 d0 h0 n0 Z0 X00 E_a1 F_coder_a1 F_value_a1 V_b hs hn hu rfl gd0) hZ (W 56 rfl) (W 4 rfl) (by decide) (by decide)) q515a q515c (g := (mkF m 17 #[.val (.ref a1), .val (.int nn), .unset, .unset] [.int 0, .ref a1])) rfl (by rw [hml]; rfl) (Steps.refl _) (argsL := [.int 0]) (rest := []) (lenOf pd__I_C rfl) rfl (by show 2 * 0 + _ ≤ _; exact Nat.le_of_eq rfl) (hB d24_17) (fun _ _ => ⟨rfl, eq514, (by decide : 0 + 0 ≤ _), (by decide : 0 + 0 ≤ _)⟩)
  dsimp only [Pt.U, Pt.locs, Pt.cells, Pt.slots] at X515 l515 y515 z515 st515 hQ515
  subst l515 y515 z515
  obtain ⟨rfl, N515q, eq515⟩ := hQ515
  have N515 := Fr.app N514 N515q
  -- pc 20: com/example/label_lattice/labellattice/Names.isAsciiLetter
  obtain ⟨_, _, ⟨T516, L516, k516, n516⟩, -, X516, ⟨Lc516, hQ516, l516, y516, z516⟩, st516⟩ := Jvm.LawKit.callS X515 hx (y := y20) hown (mvT hZ (W 74 rfl)) (mvT hZ (W 75 rfl)) (mvT hZ (W 25 rfl)) (mvT hZ (W 76 rfl)) (by decide) (backOf (W := 0) (rmial l Z a0 G1 fm hG [] d0 h0 n0 Z0 X00) hZ (W 76 rfl) (W 25 rfl) (by decide) (by decide)) (g := (mkF m 20 #[.val (.ref a1), .val (.int nn), .unset, .unset] [.int d0])) rfl (by rw [hml]; rfl) (argsL := [.int d0]) (rest := []) (lenOf pd__C_Z rfl) rfl (by show 2 * 0 + _ ≤ _; exact Nat.le_of_eq rfl) (hB d24_20) (fun _ _ => ⟨rfl, eq515, (by decide : 0 + 0 ≤ _), (by decide : 0 + 0 ≤ _)⟩)
  dsimp only [Pt.U, Pt.locs, Pt.cells, Pt.slots] at X516 l516 y516 z516 st516 hQ516
  subst l516 y516 z516
  obtain ⟨rfl, N516q, eq516⟩ := hQ516
  have N516 := Fr.app N515 N516q
  obtain ⟨fs, hr, hrun, hended, hW, hsame⟩ := X516.leave (v := some (.int 1)) (fun h => by rw [Bd.returns] at h; cases h)
  refine ⟨_, _, castTop (ef_prog_27_method_2_code_R m a1) ?_, hrun, hended, _, _, rfl, ?_, ⟨_, rfl⟩, hW, hsame.mono (own_ble rfl) (own_ble rfl)⟩
  · show Steps _ _ _ (s₁.setTop (mkF m 0 #[.val (.ref a1), .unset, .unset, .unset] [])) _
    refine XS.aloadN X0.here hx rfl (hB d24_0) rfl rfl ?_
    refine st514.trans ?_
    show Steps _ _ _ (T514.setTop (mkF m 4 #[.val (.ref a1), .unset, .unset, .unset] [.int nn])) _
    refine XS.istoreN X514.here hx rfl (hB d24_4) rfl (l' := #[.val (.ref a1), .val (.int nn), .unset, .unset]) rfl ?_
    refine XS.iloadN X514.here hx rfl (hB d24_5) rfl ?_
    refine XS.ifNo X514.here hx rfl (hB d24_6) rfl ((if0 _ _).trans (feq (z1 : ¬ (nn = (0 : Int32)))).1) ?_
    refine XS.iloadN X514.here hx rfl (hB d24_9) rfl ?_
    refine XS.bipush X514.here hx rfl (hB d24_10) ?_
    refine XS.icmpNo X514.here hx rfl (hB d24_12) rfl (flt (z2 : ¬ ((64 : Int32) < nn))).2.2.1 ?_
    refine XS.aloadN X514.here hx rfl (hB d24_15) rfl rfl ?_
    refine XS.iconst X514.here hx rfl (hB d24_16) ?_
    refine st515.trans ?_
    show Steps _ _ _ (T515.setTop (mkF m 20 #[.val (.ref a1), .val (.int nn), .unset, .unset] [.int d0])) _
    refine st516 _ ?_
    show Steps _ _ _ (T516.setTop (mkF m 23 #[.val (.ref a1), .val (.int nn), .unset, .unset] [(.int (own_letter d0))])) _
    refine XS.ifYes X516.here hx rfl (pc0 := 23) (pc' := 28) rfl (hB d24_23) rfl ((if0 _ _).trans (feq (hc23 : ¬ ((own_letter d0) = (0 : Int32)))).2) (by decide) (by decide) ?_
    refine XS.iconst X516.here hx rfl (hB d24_28) ?_
    refine XS.istoreN X516.here hx rfl (hB d24_29) rfl (l' := #[.val (.ref a1), .val (.int nn), .val (.int 1), .unset]) rfl ?_
    refine XS.iloadN X516.here hx rfl (hB d24_30) rfl ?_
    refine XS.iloadN X516.here hx rfl (hB d24_31) rfl ?_
    refine XS.icmpYes X516.here hx rfl (pc0 := 32) (pc' := 69) rfl (hB d24_32) rfl (flt (te : ¬ ((1 : Int32) < nn))).2.1 (by decide) (by decide) ?_
    refine XS.iconst X516.here hx rfl (hB d24_69) ?_
    exact retN X516 hx (t := .boolean) Bd.returns (by simp) (hB d24_70) hr
  · show Qisv Z G1 fm a1 b kb cd z vs cs nn h0 n0 _ T516.heap _
    rw [eq516]
    exact ⟨(by rw [hv]), N516, (Keep.refl h0 [])⟩
theorem rmisv_o2 (l : Launch) (Z : State) (a0 : Array Value) (G1 : Int32) (fm : Value) (hG : Glob Z a0 G1 fm) (ws : List Jvm.Cond) (a1 : Addr) (b : Addr) (kb : ClassId) (cd : Int32) (z : Int32) (vs : List Value) (cs : List Int32) (nn : Int32) (h0 : Heap) (n0 : Nat) (Z0 : n0 ≤ h0.size) (X00 : Old Z n0 h0) (E_a1 : Exa Z h0 a1 "java/lang/String") (F_coder_a1 : Fld Z h0 a1 "java/lang/String" "coder" "B" (.int cd)) (F_value_a1 : Fld Z h0 a1 "java/lang/String" "value" "[B" (.ref b)) (V_b : Arv Z h0 b kb .byte z vs (.int 0)) (hs : own_str cd z vs cs) (hn : cs.length < 5) (hu : ∀ c ∈ cs, own_u16 c) (en : nn = Int32.ofNat cs.length) (z1 : ¬ (nn = (0 : Int32))) (z2 : ¬ ((64 : Int32) < nn)) (d0 : Int32) (gd0 : cs[0]? = some d0) (d1 : Int32) (gd1 : cs[1]? = some d1) (t1 : (1 : Int32) < nn) (w1 : ¬ own_word d1 = 0) (te : ¬ ((2 : Int32) < nn)) (hv : own_valid cs = (1 : Int32)) (hc23 : ¬ ((own_letter d0) = (0 : Int32))) :
    Met l Z h0 y24 prog_27_method_2_code 4 (some .boolean) ws (Room.mk 5 0 0 66) #[.ref a1] (Qisv Z G1 fm a1 b kb cd z vs cs nn h0 n0) := by
  obtain ⟨hw, O_cs, P_cs, O_as, O_hi, O_lo, O_fm, R_fm⟩ := id hG
  have W := @own_W _ _ hw
  refine own_go "com/example/label_lattice/labellattice/Names" rfl (plainFor_of_name pn_com_example_label_lattice_labellattice_Names) ?_
  intro p e s m below meth c s₁ Bd hx hby hml hown hnm X0 e0 hZ
  have hB := @hb _ _ hby
  have N0 := Fr.nil n0
  obtain ⟨cq517, kq517, q517a, q517b, q517c⟩ := isOf hZ e0 E_a1
  -- pc 1: java/lang/String.length
  obtain ⟨_, _, ⟨T517, L517, k517, n517⟩, -, X517, ⟨Lc517, hQ517, l517, y517, z517⟩, st517⟩ := X0.virtualBack hx (y := y10) (z := y10) hown (mvT hZ (W 27 rfl)) (mvT hZ (W 28 rfl)) (notFace_of_selects (args := #[]) (mvT hZ (W 30 rfl))) (mvT hZ (W 30 rfl)) (mvT hZ (W 29 rfl)) (by decide) (backOf (W := 0) (rmsln l Z a0 G1 fm hG [] a1 b kb cd z vs cs nn h0 n0 Z0 X00 E_a1 F_coder_a1 F_value_a1 V_b hs hn en) hZ (W 31 rfl) (W 4 rfl) (by decide) (by decide)) q517a q517c (g := (mkF m 1 #[.val (.ref a1), .unset, .unset, .unset] [.ref a1])) rfl (by rw [hml]; rfl) (Steps.refl _) (argsL := []) (rest := []) (lenOf pd___I rfl) rfl (by show 2 * 0 + _ ≤ _; exact Nat.le_of_eq rfl) (hB d24_1) (fun _ _ => ⟨rfl, e0, (by decide : 0 + 0 ≤ _), (by decide : 0 + 0 ≤ _)⟩)
  dsimp only [Pt.U, Pt.locs, Pt.cells, Pt.slots] at X517 l517 y517 z517 st517 hQ517
  subst l517 y517 z517
  obtain ⟨rfl, N517q, eq517⟩ := hQ517
  have N517 := Fr.app N0 N517q
  obtain ⟨cq518, kq518, q518a, q518b, q518c⟩ := isOf hZ eq517 E_a1
  -- pc 17: java/lang/String.charAt
  obtain ⟨_, _, ⟨T518, L518, k518, n518⟩, -, X518, ⟨Lc518, hQ518, l518, y518, z518⟩, st518⟩ := X517.virtualBack hx (y := y11) (z := y11) hown (mvT hZ (W 52 rfl)) (mvT hZ (W 53 rfl)) (notFace_of_selects (args := #[]) (mvT hZ (W 55 rfl))) (mvT hZ (W 55 rfl)) (mvT hZ (W 54 rfl)) (by decide) (backOf (W := 0) (rmsca l Z a0 G1 fm hG [] a1 b kb cd z vs (0 : Int32) cs 0 d0 h0 n0 Z0 X00 E_a1 F_coder_a1 F_value_a1 V_b hs hn hu rfl gd0) hZ (W 56 rfl) (W 4 rfl) (by decide) (by decide)) q518a q518c (g := (mkF m 17 #[.val (.ref a1), .val (.int nn), .unset, .unset] [.int 0, .ref a1])) rfl (by rw [hml]; rfl) (Steps.refl _) (argsL := [.int 0]) (rest := []) (lenOf pd__I_C rfl) rfl (by show 2 * 0 + _ ≤ _; exact Nat.le_of_eq rfl) (hB d24_17) (fun _ _ => ⟨rfl, eq517, (by decide : 0 + 0 ≤ _), (by decide : 0 + 0 ≤ _)⟩)
  dsimp only [Pt.U, Pt.locs, Pt.cells, Pt.slots] at X518 l518 y518 z518 st518 hQ518
  subst l518 y518 z518
  obtain ⟨rfl, N518q, eq518⟩ := hQ518
  have N518 := Fr.app N517 N518q
  -- pc 20: com/example/label_lattice/labellattice/Names.isAsciiLetter
  obtain ⟨_, _, ⟨T519, L519, k519, n519⟩, -, X519, ⟨Lc519, hQ519, l519, y519, z519⟩, st519⟩ := Jvm.LawKit.callS X518 hx (y := y20) hown (mvT hZ (W 74 rfl)) (mvT hZ (W 75 rfl)) (mvT hZ (W 25 rfl)) (mvT hZ (W 76 rfl)) (by decide) (backOf (W := 0) (rmial l Z a0 G1 fm hG [] d0 h0 n0 Z0 X00) hZ (W 76 rfl) (W 25 rfl) (by decide) (by decide)) (g := (mkF m 20 #[.val (.ref a1), .val (.int nn), .unset, .unset] [.int d0])) rfl (by rw [hml]; rfl) (argsL := [.int d0]) (rest := []) (lenOf pd__C_Z rfl) rfl (by show 2 * 0 + _ ≤ _; exact Nat.le_of_eq rfl) (hB d24_20) (fun _ _ => ⟨rfl, eq518, (by decide : 0 + 0 ≤ _), (by decide : 0 + 0 ≤ _)⟩)
  dsimp only [Pt.U, Pt.locs, Pt.cells, Pt.slots] at X519 l519 y519 z519 st519 hQ519
  subst l519 y519 z519
  obtain ⟨rfl, N519q, eq519⟩ := hQ519
  have N519 := Fr.app N518 N519q
  obtain ⟨T520, L520, X520, N520, K520, st520⟩ := sgtn1 Z a0 G1 fm hG a1 b kb cd z vs cs nn d1 h0 n0 Z0 X00 E_a1 F_coder_a1 F_value_a1 V_b hs hn hu en t1 gd1 w1 X519 hx hZ hby hml hown eq519 N519
  have Z521 : n0 ≤ T520.heap.size := Nat.le_trans Z0 K520.1
  have K0_521 : Keep h0 T520.heap [] := (Keep.refl h0 []).trans K520 all0
  have O521 : Old Z n0 T520.heap := X00.keep K520 all0
  obtain ⟨fs, hr, hrun, hended, hW, hsame⟩ := X520.leave (v := some (.int 1)) (fun h => by rw [Bd.returns] at h; cases h)
  refine ⟨_, _, castTop (ef_prog_27_method_2_code_R m a1) ?_, hrun, hended, _, _, rfl, ?_, ⟨_, rfl⟩, hW, hsame.mono (own_ble rfl) (own_ble rfl)⟩
  · show Steps _ _ _ (s₁.setTop (mkF m 0 #[.val (.ref a1), .unset, .unset, .unset] [])) _
    refine XS.aloadN X0.here hx rfl (hB d24_0) rfl rfl ?_
    refine st517.trans ?_
    show Steps _ _ _ (T517.setTop (mkF m 4 #[.val (.ref a1), .unset, .unset, .unset] [.int nn])) _
    refine XS.istoreN X517.here hx rfl (hB d24_4) rfl (l' := #[.val (.ref a1), .val (.int nn), .unset, .unset]) rfl ?_
    refine XS.iloadN X517.here hx rfl (hB d24_5) rfl ?_
    refine XS.ifNo X517.here hx rfl (hB d24_6) rfl ((if0 _ _).trans (feq (z1 : ¬ (nn = (0 : Int32)))).1) ?_
    refine XS.iloadN X517.here hx rfl (hB d24_9) rfl ?_
    refine XS.bipush X517.here hx rfl (hB d24_10) ?_
    refine XS.icmpNo X517.here hx rfl (hB d24_12) rfl (flt (z2 : ¬ ((64 : Int32) < nn))).2.2.1 ?_
    refine XS.aloadN X517.here hx rfl (hB d24_15) rfl rfl ?_
    refine XS.iconst X517.here hx rfl (hB d24_16) ?_
    refine st518.trans ?_
    show Steps _ _ _ (T518.setTop (mkF m 20 #[.val (.ref a1), .val (.int nn), .unset, .unset] [.int d0])) _
    refine st519 _ ?_
    show Steps _ _ _ (T519.setTop (mkF m 23 #[.val (.ref a1), .val (.int nn), .unset, .unset] [(.int (own_letter d0))])) _
    refine XS.ifYes X519.here hx rfl (pc0 := 23) (pc' := 28) rfl (hB d24_23) rfl ((if0 _ _).trans (feq (hc23 : ¬ ((own_letter d0) = (0 : Int32)))).2) (by decide) (by decide) ?_
    refine XS.iconst X519.here hx rfl (hB d24_28) ?_
    refine XS.istoreN X519.here hx rfl (hB d24_29) rfl (l' := #[.val (.ref a1), .val (.int nn), .val (.int 1), .unset]) rfl ?_
    show Steps _ _ _ (T519.setTop (mkF m 30 #[.val (.ref a1), .val (.int nn), .val (.int 1), .unset] [])) _
    refine st520 _ ?_
    show Steps _ _ _ (T520.setTop (mkF m 30 #[.val (.ref a1), .val (.int nn), .val (.int 2), .val (.int d1)] [])) _
    refine XS.iloadN X520.here hx rfl (hB d24_30) rfl ?_
    refine XS.iloadN X520.here hx rfl (hB d24_31) rfl ?_
    refine XS.icmpYes X520.here hx rfl (pc0 := 32) (pc' := 69) rfl (hB d24_32) rfl (flt (te : ¬ ((2 : Int32) < nn))).2.1 (by decide) (by decide) ?_
    refine XS.iconst X520.here hx rfl (hB d24_69) ?_
    exact retN X520 hx (t := .boolean) Bd.returns (by simp) (hB d24_70) hr
  · show Qisv Z G1 fm a1 b kb cd z vs cs nn h0 n0 _ T520.heap _
    exact ⟨(by rw [hv]), N520, K0_521⟩
theorem rmisv_o3 (l : Launch) (Z : State) (a0 : Array Value) (G1 : Int32) (fm : Value) (hG : Glob Z a0 G1 fm) (ws : List Jvm.Cond) (a1 : Addr) (b : Addr) (kb : ClassId) (cd : Int32) (z : Int32) (vs : List Value) (cs : List Int32) (nn : Int32) (h0 : Heap) (n0 : Nat) (Z0 : n0 ≤ h0.size) (X00 : Old Z n0 h0) (E_a1 : Exa Z h0 a1 "java/lang/String") (F_coder_a1 : Fld Z h0 a1 "java/lang/String" "coder" "B" (.int cd)) (F_value_a1 : Fld Z h0 a1 "java/lang/String" "value" "[B" (.ref b)) (V_b : Arv Z h0 b kb .byte z vs (.int 0)) (hs : own_str cd z vs cs) (hn : cs.length < 5) (hu : ∀ c ∈ cs, own_u16 c) (en : nn = Int32.ofNat cs.length) (z1 : ¬ (nn = (0 : Int32))) (z2 : ¬ ((64 : Int32) < nn)) (d0 : Int32) (gd0 : cs[0]? = some d0) (d1 : Int32) (gd1 : cs[1]? = some d1) (t1 : (1 : Int32) < nn) (d2 : Int32) (gd2 : cs[2]? = some d2) (t2 : (2 : Int32) < nn) (w1 : ¬ own_word d1 = 0) (w2 : ¬ own_word d2 = 0) (te : ¬ ((3 : Int32) < nn)) (hv : own_valid cs = (1 : Int32)) (hc23 : ¬ ((own_letter d0) = (0 : Int32))) :
    Met l Z h0 y24 prog_27_method_2_code 4 (some .boolean) ws (Room.mk 5 0 0 66) #[.ref a1] (Qisv Z G1 fm a1 b kb cd z vs cs nn h0 n0) := by
  obtain ⟨hw, O_cs, P_cs, O_as, O_hi, O_lo, O_fm, R_fm⟩ := id hG
  have W := @own_W _ _ hw
  refine own_go "com/example/label_lattice/labellattice/Names" rfl (plainFor_of_name pn_com_example_label_lattice_labellattice_Names) ?_
  intro p e s m below meth c s₁ Bd hx hby hml hown hnm X0 e0 hZ
  have hB := @hb _ _ hby
  have N0 := Fr.nil n0
  obtain ⟨cq522, kq522, q522a, q522b, q522c⟩ := isOf hZ e0 E_a1
  -- pc 1: java/lang/String.length
  obtain ⟨_, _, ⟨T522, L522, k522, n522⟩, -, X522, ⟨Lc522, hQ522, l522, y522, z522⟩, st522⟩ := X0.virtualBack hx (y := y10) (z := y10) hown (mvT hZ (W 27 rfl)) (mvT hZ (W 28 rfl)) (notFace_of_selects (args := #[]) (mvT hZ (W 30 rfl))) (mvT hZ (W 30 rfl)) (mvT hZ (W 29 rfl)) (by decide) (backOf (W := 0) (rmsln l Z a0 G1 fm hG [] a1 b kb cd z vs cs nn h0 n0 Z0 X00 E_a1 F_coder_a1 F_value_a1 V_b hs hn en) hZ (W 31 rfl) (W 4 rfl) (by decide) (by decide)) q522a q522c (g := (mkF m 1 #[.val (.ref a1), .unset, .unset, .unset] [.ref a1])) rfl (by rw [hml]; rfl) (Steps.refl _) (argsL := []) (rest := []) (lenOf pd___I rfl) rfl (by show 2 * 0 + _ ≤ _; exact Nat.le_of_eq rfl) (hB d24_1) (fun _ _ => ⟨rfl, e0, (by decide : 0 + 0 ≤ _), (by decide : 0 + 0 ≤ _)⟩)
  dsimp only [Pt.U, Pt.locs, Pt.cells, Pt.slots] at X522 l522 y522 z522 st522 hQ522
  subst l522 y522 z522
  obtain ⟨rfl, N522q, eq522⟩ := hQ522
  have N522 := Fr.app N0 N522q
  obtain ⟨cq523, kq523, q523a, q523b, q523c⟩ := isOf hZ eq522 E_a1
  -- pc 17: java/lang/String.charAt
  obtain ⟨_, _, ⟨T523, L523, k523, n523⟩, -, X523, ⟨Lc523, hQ523, l523, y523, z523⟩, st523⟩ := X522.virtualBack hx (y := y11) (z := y11) hown (mvT hZ (W 52 rfl)) (mvT hZ (W 53 rfl)) (notFace_of_selects (args := #[]) (mvT hZ (W 55 rfl))) (mvT hZ (W 55 rfl)) (mvT hZ (W 54 rfl)) (by decide) (backOf (W := 0) (rmsca l Z a0 G1 fm hG [] a1 b kb cd z vs (0 : Int32) cs 0 d0 h0 n0 Z0 X00 E_a1 F_coder_a1 F_value_a1 V_b hs hn hu rfl gd0) hZ (W 56 rfl) (W 4 rfl) (by decide) (by decide)) q523a q523c (g := (mkF m 17 #[.val (.ref a1), .val (.int nn), .unset, .unset] [.int 0, .ref a1])) rfl (by rw [hml]; rfl) (Steps.refl _) (argsL := [.int 0]) (rest := []) (lenOf pd__I_C rfl) rfl (by show 2 * 0 + _ ≤ _; exact Nat.le_of_eq rfl) (hB d24_17) (fun _ _ => ⟨rfl, eq522, (by decide : 0 + 0 ≤ _), (by decide : 0 + 0 ≤ _)⟩)
  dsimp only [Pt.U, Pt.locs, Pt.cells, Pt.slots] at X523 l523 y523 z523 st523 hQ523
  subst l523 y523 z523
  obtain ⟨rfl, N523q, eq523⟩ := hQ523
  have N523 := Fr.app N522 N523q
  -- pc 20: com/example/label_lattice/labellattice/Names.isAsciiLetter
  obtain ⟨_, _, ⟨T524, L524, k524, n524⟩, -, X524, ⟨Lc524, hQ524, l524, y524, z524⟩, st524⟩ := Jvm.LawKit.callS X523 hx (y := y20) hown (mvT hZ (W 74 rfl)) (mvT hZ (W 75 rfl)) (mvT hZ (W 25 rfl)) (mvT hZ (W 76 rfl)) (by decide) (backOf (W := 0) (rmial l Z a0 G1 fm hG [] d0 h0 n0 Z0 X00) hZ (W 76 rfl) (W 25 rfl) (by decide) (by decide)) (g := (mkF m 20 #[.val (.ref a1), .val (.int nn), .unset, .unset] [.int d0])) rfl (by rw [hml]; rfl) (argsL := [.int d0]) (rest := []) (lenOf pd__C_Z rfl) rfl (by show 2 * 0 + _ ≤ _; exact Nat.le_of_eq rfl) (hB d24_20) (fun _ _ => ⟨rfl, eq523, (by decide : 0 + 0 ≤ _), (by decide : 0 + 0 ≤ _)⟩)
  dsimp only [Pt.U, Pt.locs, Pt.cells, Pt.slots] at X524 l524 y524 z524 st524 hQ524
  subst l524 y524 z524
  obtain ⟨rfl, N524q, eq524⟩ := hQ524
  have N524 := Fr.app N523 N524q
  obtain ⟨T525, L525, X525, N525, K525, st525⟩ := sgtn1 Z a0 G1 fm hG a1 b kb cd z vs cs nn d1 h0 n0 Z0 X00 E_a1 F_coder_a1 F_value_a1 V_b hs hn hu en t1 gd1 w1 X524 hx hZ hby hml hown eq524 N524
  have Z526 : n0 ≤ T525.heap.size := Nat.le_trans Z0 K525.1
  have K0_526 : Keep h0 T525.heap [] := (Keep.refl h0 []).trans K525 all0
  have O526 : Old Z n0 T525.heap := X00.keep K525 all0
  have f528 := (E_a1.keep K525)
  have f529 := (F_coder_a1.keep K525 nin0)
  have f530 := (F_value_a1.keep K525 nin0)
  have f531 := (V_b.keep K525 nin0)
  obtain ⟨T527, L527, X527, N527, K527, st527⟩ := sgtn2 Z a0 G1 fm hG a1 b kb cd z vs cs nn d2 d1 T525.heap n0 Z526 O526 f528 f529 f530 f531 hs hn hu en t2 gd2 w2 X525 hx hZ hby hml hown rfl N525
  have Z532 : n0 ≤ T527.heap.size := Nat.le_trans Z526 K527.1
  have K0_532 : Keep h0 T527.heap [] := K0_526.trans K527 all0
  have O532 : Old Z n0 T527.heap := O526.keep K527 all0
  obtain ⟨fs, hr, hrun, hended, hW, hsame⟩ := X527.leave (v := some (.int 1)) (fun h => by rw [Bd.returns] at h; cases h)
  refine ⟨_, _, castTop (ef_prog_27_method_2_code_R m a1) ?_, hrun, hended, _, _, rfl, ?_, ⟨_, rfl⟩, hW, hsame.mono (own_ble rfl) (own_ble rfl)⟩
  · show Steps _ _ _ (s₁.setTop (mkF m 0 #[.val (.ref a1), .unset, .unset, .unset] [])) _
    refine XS.aloadN X0.here hx rfl (hB d24_0) rfl rfl ?_
    refine st522.trans ?_
    show Steps _ _ _ (T522.setTop (mkF m 4 #[.val (.ref a1), .unset, .unset, .unset] [.int nn])) _
    refine XS.istoreN X522.here hx rfl (hB d24_4) rfl (l' := #[.val (.ref a1), .val (.int nn), .unset, .unset]) rfl ?_
    refine XS.iloadN X522.here hx rfl (hB d24_5) rfl ?_
    refine XS.ifNo X522.here hx rfl (hB d24_6) rfl ((if0 _ _).trans (feq (z1 : ¬ (nn = (0 : Int32)))).1) ?_
    refine XS.iloadN X522.here hx rfl (hB d24_9) rfl ?_
    refine XS.bipush X522.here hx rfl (hB d24_10) ?_
    refine XS.icmpNo X522.here hx rfl (hB d24_12) rfl (flt (z2 : ¬ ((64 : Int32) < nn))).2.2.1 ?_
    refine XS.aloadN X522.here hx rfl (hB d24_15) rfl rfl ?_
    refine XS.iconst X522.here hx rfl (hB d24_16) ?_
    refine st523.trans ?_
    show Steps _ _ _ (T523.setTop (mkF m 20 #[.val (.ref a1), .val (.int nn), .unset, .unset] [.int d0])) _
    refine st524 _ ?_
    show Steps _ _ _ (T524.setTop (mkF m 23 #[.val (.ref a1), .val (.int nn), .unset, .unset] [(.int (own_letter d0))])) _
    refine XS.ifYes X524.here hx rfl (pc0 := 23) (pc' := 28) rfl (hB d24_23) rfl ((if0 _ _).trans (feq (hc23 : ¬ ((own_letter d0) = (0 : Int32)))).2) (by decide) (by decide) ?_
    refine XS.iconst X524.here hx rfl (hB d24_28) ?_
    refine XS.istoreN X524.here hx rfl (hB d24_29) rfl (l' := #[.val (.ref a1), .val (.int nn), .val (.int 1), .unset]) rfl ?_
    show Steps _ _ _ (T524.setTop (mkF m 30 #[.val (.ref a1), .val (.int nn), .val (.int 1), .unset] [])) _
    refine st525 _ ?_
    show Steps _ _ _ (T525.setTop (mkF m 30 #[.val (.ref a1), .val (.int nn), .val (.int 2), .val (.int d1)] [])) _
    refine st527 _ ?_
    show Steps _ _ _ (T527.setTop (mkF m 30 #[.val (.ref a1), .val (.int nn), .val (.int 3), .val (.int d2)] [])) _
    refine XS.iloadN X527.here hx rfl (hB d24_30) rfl ?_
    refine XS.iloadN X527.here hx rfl (hB d24_31) rfl ?_
    refine XS.icmpYes X527.here hx rfl (pc0 := 32) (pc' := 69) rfl (hB d24_32) rfl (flt (te : ¬ ((3 : Int32) < nn))).2.1 (by decide) (by decide) ?_
    refine XS.iconst X527.here hx rfl (hB d24_69) ?_
    exact retN X527 hx (t := .boolean) Bd.returns (by simp) (hB d24_70) hr
  · show Qisv Z G1 fm a1 b kb cd z vs cs nn h0 n0 _ T527.heap _
    exact ⟨(by rw [hv]), N527, K0_532⟩
theorem rmisv_o4 (l : Launch) (Z : State) (a0 : Array Value) (G1 : Int32) (fm : Value) (hG : Glob Z a0 G1 fm) (ws : List Jvm.Cond) (a1 : Addr) (b : Addr) (kb : ClassId) (cd : Int32) (z : Int32) (vs : List Value) (cs : List Int32) (nn : Int32) (h0 : Heap) (n0 : Nat) (Z0 : n0 ≤ h0.size) (X00 : Old Z n0 h0) (E_a1 : Exa Z h0 a1 "java/lang/String") (F_coder_a1 : Fld Z h0 a1 "java/lang/String" "coder" "B" (.int cd)) (F_value_a1 : Fld Z h0 a1 "java/lang/String" "value" "[B" (.ref b)) (V_b : Arv Z h0 b kb .byte z vs (.int 0)) (hs : own_str cd z vs cs) (hn : cs.length < 5) (hu : ∀ c ∈ cs, own_u16 c) (en : nn = Int32.ofNat cs.length) (z1 : ¬ (nn = (0 : Int32))) (z2 : ¬ ((64 : Int32) < nn)) (d0 : Int32) (gd0 : cs[0]? = some d0) (d1 : Int32) (gd1 : cs[1]? = some d1) (t1 : (1 : Int32) < nn) (d2 : Int32) (gd2 : cs[2]? = some d2) (t2 : (2 : Int32) < nn) (d3 : Int32) (gd3 : cs[3]? = some d3) (t3 : (3 : Int32) < nn) (w1 : ¬ own_word d1 = 0) (w2 : ¬ own_word d2 = 0) (w3 : ¬ own_word d3 = 0) (te : ¬ ((4 : Int32) < nn)) (hv : own_valid cs = (1 : Int32)) (hc23 : ¬ ((own_letter d0) = (0 : Int32))) :
    Met l Z h0 y24 prog_27_method_2_code 4 (some .boolean) ws (Room.mk 5 0 0 66) #[.ref a1] (Qisv Z G1 fm a1 b kb cd z vs cs nn h0 n0) := by
  obtain ⟨hw, O_cs, P_cs, O_as, O_hi, O_lo, O_fm, R_fm⟩ := id hG
  have W := @own_W _ _ hw
  refine own_go "com/example/label_lattice/labellattice/Names" rfl (plainFor_of_name pn_com_example_label_lattice_labellattice_Names) ?_
  intro p e s m below meth c s₁ Bd hx hby hml hown hnm X0 e0 hZ
  have hB := @hb _ _ hby
  have N0 := Fr.nil n0
  obtain ⟨cq533, kq533, q533a, q533b, q533c⟩ := isOf hZ e0 E_a1
  -- pc 1: java/lang/String.length
  obtain ⟨_, _, ⟨T533, L533, k533, n533⟩, -, X533, ⟨Lc533, hQ533, l533, y533, z533⟩, st533⟩ := X0.virtualBack hx (y := y10) (z := y10) hown (mvT hZ (W 27 rfl)) (mvT hZ (W 28 rfl)) (notFace_of_selects (args := #[]) (mvT hZ (W 30 rfl))) (mvT hZ (W 30 rfl)) (mvT hZ (W 29 rfl)) (by decide) (backOf (W := 0) (rmsln l Z a0 G1 fm hG [] a1 b kb cd z vs cs nn h0 n0 Z0 X00 E_a1 F_coder_a1 F_value_a1 V_b hs hn en) hZ (W 31 rfl) (W 4 rfl) (by decide) (by decide)) q533a q533c (g := (mkF m 1 #[.val (.ref a1), .unset, .unset, .unset] [.ref a1])) rfl (by rw [hml]; rfl) (Steps.refl _) (argsL := []) (rest := []) (lenOf pd___I rfl) rfl (by show 2 * 0 + _ ≤ _; exact Nat.le_of_eq rfl) (hB d24_1) (fun _ _ => ⟨rfl, e0, (by decide : 0 + 0 ≤ _), (by decide : 0 + 0 ≤ _)⟩)
  dsimp only [Pt.U, Pt.locs, Pt.cells, Pt.slots] at X533 l533 y533 z533 st533 hQ533
  subst l533 y533 z533
  obtain ⟨rfl, N533q, eq533⟩ := hQ533
  have N533 := Fr.app N0 N533q
  obtain ⟨cq534, kq534, q534a, q534b, q534c⟩ := isOf hZ eq533 E_a1
  -- pc 17: java/lang/String.charAt
  obtain ⟨_, _, ⟨T534, L534, k534, n534⟩, -, X534, ⟨Lc534, hQ534, l534, y534, z534⟩, st534⟩ := X533.virtualBack hx (y := y11) (z := y11) hown (mvT hZ (W 52 rfl)) (mvT hZ (W 53 rfl)) (notFace_of_selects (args := #[]) (mvT hZ (W 55 rfl))) (mvT hZ (W 55 rfl)) (mvT hZ (W 54 rfl)) (by decide) (backOf (W := 0) (rmsca l Z a0 G1 fm hG [] a1 b kb cd z vs (0 : Int32) cs 0 d0 h0 n0 Z0 X00 E_a1 F_coder_a1 F_value_a1 V_b hs hn hu rfl gd0) hZ (W 56 rfl) (W 4 rfl) (by decide) (by decide)) q534a q534c (g := (mkF m 17 #[.val (.ref a1), .val (.int nn), .unset, .unset] [.int 0, .ref a1])) rfl (by rw [hml]; rfl) (Steps.refl _) (argsL := [.int 0]) (rest := []) (lenOf pd__I_C rfl) rfl (by show 2 * 0 + _ ≤ _; exact Nat.le_of_eq rfl) (hB d24_17) (fun _ _ => ⟨rfl, eq533, (by decide : 0 + 0 ≤ _), (by decide : 0 + 0 ≤ _)⟩)
  dsimp only [Pt.U, Pt.locs, Pt.cells, Pt.slots] at X534 l534 y534 z534 st534 hQ534
  subst l534 y534 z534
  obtain ⟨rfl, N534q, eq534⟩ := hQ534
  have N534 := Fr.app N533 N534q
  -- pc 20: com/example/label_lattice/labellattice/Names.isAsciiLetter
  obtain ⟨_, _, ⟨T535, L535, k535, n535⟩, -, X535, ⟨Lc535, hQ535, l535, y535, z535⟩, st535⟩ := Jvm.LawKit.callS X534 hx (y := y20) hown (mvT hZ (W 74 rfl)) (mvT hZ (W 75 rfl)) (mvT hZ (W 25 rfl)) (mvT hZ (W 76 rfl)) (by decide) (backOf (W := 0) (rmial l Z a0 G1 fm hG [] d0 h0 n0 Z0 X00) hZ (W 76 rfl) (W 25 rfl) (by decide) (by decide)) (g := (mkF m 20 #[.val (.ref a1), .val (.int nn), .unset, .unset] [.int d0])) rfl (by rw [hml]; rfl) (argsL := [.int d0]) (rest := []) (lenOf pd__C_Z rfl) rfl (by show 2 * 0 + _ ≤ _; exact Nat.le_of_eq rfl) (hB d24_20) (fun _ _ => ⟨rfl, eq534, (by decide : 0 + 0 ≤ _), (by decide : 0 + 0 ≤ _)⟩)
  dsimp only [Pt.U, Pt.locs, Pt.cells, Pt.slots] at X535 l535 y535 z535 st535 hQ535
  subst l535 y535 z535
  obtain ⟨rfl, N535q, eq535⟩ := hQ535
  have N535 := Fr.app N534 N535q
  obtain ⟨T536, L536, X536, N536, K536, st536⟩ := sgtn1 Z a0 G1 fm hG a1 b kb cd z vs cs nn d1 h0 n0 Z0 X00 E_a1 F_coder_a1 F_value_a1 V_b hs hn hu en t1 gd1 w1 X535 hx hZ hby hml hown eq535 N535
  have Z537 : n0 ≤ T536.heap.size := Nat.le_trans Z0 K536.1
  have K0_537 : Keep h0 T536.heap [] := (Keep.refl h0 []).trans K536 all0
  have O537 : Old Z n0 T536.heap := X00.keep K536 all0
  have f539 := (E_a1.keep K536)
  have f540 := (F_coder_a1.keep K536 nin0)
  have f541 := (F_value_a1.keep K536 nin0)
  have f542 := (V_b.keep K536 nin0)
  obtain ⟨T538, L538, X538, N538, K538, st538⟩ := sgtn2 Z a0 G1 fm hG a1 b kb cd z vs cs nn d2 d1 T536.heap n0 Z537 O537 f539 f540 f541 f542 hs hn hu en t2 gd2 w2 X536 hx hZ hby hml hown rfl N536
  have Z543 : n0 ≤ T538.heap.size := Nat.le_trans Z537 K538.1
  have K0_543 : Keep h0 T538.heap [] := K0_537.trans K538 all0
  have O543 : Old Z n0 T538.heap := O537.keep K538 all0
  have f545 := (f539.keep K538)
  have f546 := (f540.keep K538 nin0)
  have f547 := (f541.keep K538 nin0)
  have f548 := (f542.keep K538 nin0)
  obtain ⟨T544, L544, X544, N544, K544, st544⟩ := sgtn3 Z a0 G1 fm hG a1 b kb cd z vs cs nn d3 d2 T538.heap n0 Z543 O543 f545 f546 f547 f548 hs hn hu en t3 gd3 w3 X538 hx hZ hby hml hown rfl N538
  have Z549 : n0 ≤ T544.heap.size := Nat.le_trans Z543 K544.1
  have K0_549 : Keep h0 T544.heap [] := K0_543.trans K544 all0
  have O549 : Old Z n0 T544.heap := O543.keep K544 all0
  obtain ⟨fs, hr, hrun, hended, hW, hsame⟩ := X544.leave (v := some (.int 1)) (fun h => by rw [Bd.returns] at h; cases h)
  refine ⟨_, _, castTop (ef_prog_27_method_2_code_R m a1) ?_, hrun, hended, _, _, rfl, ?_, ⟨_, rfl⟩, hW, hsame.mono (own_ble rfl) (own_ble rfl)⟩
  · show Steps _ _ _ (s₁.setTop (mkF m 0 #[.val (.ref a1), .unset, .unset, .unset] [])) _
    refine XS.aloadN X0.here hx rfl (hB d24_0) rfl rfl ?_
    refine st533.trans ?_
    show Steps _ _ _ (T533.setTop (mkF m 4 #[.val (.ref a1), .unset, .unset, .unset] [.int nn])) _
    refine XS.istoreN X533.here hx rfl (hB d24_4) rfl (l' := #[.val (.ref a1), .val (.int nn), .unset, .unset]) rfl ?_
    refine XS.iloadN X533.here hx rfl (hB d24_5) rfl ?_
    refine XS.ifNo X533.here hx rfl (hB d24_6) rfl ((if0 _ _).trans (feq (z1 : ¬ (nn = (0 : Int32)))).1) ?_
    refine XS.iloadN X533.here hx rfl (hB d24_9) rfl ?_
    refine XS.bipush X533.here hx rfl (hB d24_10) ?_
    refine XS.icmpNo X533.here hx rfl (hB d24_12) rfl (flt (z2 : ¬ ((64 : Int32) < nn))).2.2.1 ?_
    refine XS.aloadN X533.here hx rfl (hB d24_15) rfl rfl ?_
    refine XS.iconst X533.here hx rfl (hB d24_16) ?_
    refine st534.trans ?_
    show Steps _ _ _ (T534.setTop (mkF m 20 #[.val (.ref a1), .val (.int nn), .unset, .unset] [.int d0])) _
    refine st535 _ ?_
    show Steps _ _ _ (T535.setTop (mkF m 23 #[.val (.ref a1), .val (.int nn), .unset, .unset] [(.int (own_letter d0))])) _
    refine XS.ifYes X535.here hx rfl (pc0 := 23) (pc' := 28) rfl (hB d24_23) rfl ((if0 _ _).trans (feq (hc23 : ¬ ((own_letter d0) = (0 : Int32)))).2) (by decide) (by decide) ?_
    refine XS.iconst X535.here hx rfl (hB d24_28) ?_
    refine XS.istoreN X535.here hx rfl (hB d24_29) rfl (l' := #[.val (.ref a1), .val (.int nn), .val (.int 1), .unset]) rfl ?_
    show Steps _ _ _ (T535.setTop (mkF m 30 #[.val (.ref a1), .val (.int nn), .val (.int 1), .unset] [])) _
    refine st536 _ ?_
    show Steps _ _ _ (T536.setTop (mkF m 30 #[.val (.ref a1), .val (.int nn), .val (.int 2), .val (.int d1)] [])) _
    refine st538 _ ?_
    show Steps _ _ _ (T538.setTop (mkF m 30 #[.val (.ref a1), .val (.int nn), .val (.int 3), .val (.int d2)] [])) _
    refine st544 _ ?_
    show Steps _ _ _ (T544.setTop (mkF m 30 #[.val (.ref a1), .val (.int nn), .val (.int 4), .val (.int d3)] [])) _
    refine XS.iloadN X544.here hx rfl (hB d24_30) rfl ?_
    refine XS.iloadN X544.here hx rfl (hB d24_31) rfl ?_
    refine XS.icmpYes X544.here hx rfl (pc0 := 32) (pc' := 69) rfl (hB d24_32) rfl (flt (te : ¬ ((4 : Int32) < nn))).2.1 (by decide) (by decide) ?_
    refine XS.iconst X544.here hx rfl (hB d24_69) ?_
    exact retN X544 hx (t := .boolean) Bd.returns (by simp) (hB d24_70) hr
  · show Qisv Z G1 fm a1 b kb cd z vs cs nn h0 n0 _ T544.heap _
    exact ⟨(by rw [hv]), N544, K0_549⟩
theorem rmisv (l : Launch) (Z : State) (a0 : Array Value) (G1 : Int32) (fm : Value) (hG : Glob Z a0 G1 fm) (ws : List Jvm.Cond) (a1 : Addr) (b : Addr) (kb : ClassId) (cd : Int32) (z : Int32) (vs : List Value) (cs : List Int32) (nn : Int32) (h0 : Heap) (n0 : Nat) (Z0 : n0 ≤ h0.size) (X00 : Old Z n0 h0) (E_a1 : Exa Z h0 a1 "java/lang/String") (F_coder_a1 : Fld Z h0 a1 "java/lang/String" "coder" "B" (.int cd)) (F_value_a1 : Fld Z h0 a1 "java/lang/String" "value" "[B" (.ref b)) (V_b : Arv Z h0 b kb .byte z vs (.int 0)) (hs : own_str cd z vs cs) (hn : cs.length < 5) (hu : ∀ c ∈ cs, own_u16 c) (en : nn = Int32.ofNat cs.length) :
    Met l Z h0 y24 prog_27_method_2_code 4 (some .boolean) ws (Room.mk 5 0 0 66) #[.ref a1] (Qisv Z G1 fm a1 b kb cd z vs cs nn h0 n0) := by
  match cs, hs, hn, hu, en with
  | [], hs, hn, hu, en => exact rmisv_z l Z a0 G1 fm hG ws a1 b kb cd z vs [] nn h0 n0 Z0 X00 E_a1 F_coder_a1 F_value_a1 V_b hs hn hu en en rfl
  | [e0], hs, hn, hu, en =>
    by_cases q0 : own_letter e0 = 0
    · exact rmisv_n l Z a0 G1 fm hG ws a1 b kb cd z vs [e0] nn h0 n0 Z0 X00 E_a1 F_coder_a1 F_value_a1 V_b hs hn hu en (by rw [en]; exact (by decide : ¬ (Int32.ofNat 1 = (0 : Int32)))) (by rw [en]; exact (by decide : ¬ ((64 : Int32) < Int32.ofNat 1))) e0 rfl (own_v0 q0) q0
    exact rmisv_o1 l Z a0 G1 fm hG ws a1 b kb cd z vs [e0] nn h0 n0 Z0 X00 E_a1 F_coder_a1 F_value_a1 V_b hs hn hu en (by rw [en]; exact (by decide : ¬ (Int32.ofNat 1 = (0 : Int32)))) (by rw [en]; exact (by decide : ¬ ((64 : Int32) < Int32.ofNat 1))) e0 rfl (by rw [en]; exact (by decide : ¬ ((1 : Int32) < Int32.ofNat 1))) ((own_v1 q0).trans rfl) q0
  | [e0, e1], hs, hn, hu, en =>
    by_cases q0 : own_letter e0 = 0
    · exact rmisv_n l Z a0 G1 fm hG ws a1 b kb cd z vs [e0, e1] nn h0 n0 Z0 X00 E_a1 F_coder_a1 F_value_a1 V_b hs hn hu en (by rw [en]; exact (by decide : ¬ (Int32.ofNat 2 = (0 : Int32)))) (by rw [en]; exact (by decide : ¬ ((64 : Int32) < Int32.ofNat 2))) e0 rfl (own_v0 q0) q0
    by_cases q1 : own_word e1 = 0
    · exact rmisv_f1 l Z a0 G1 fm hG ws a1 b kb cd z vs [e0, e1] nn h0 n0 Z0 X00 E_a1 F_coder_a1 F_value_a1 V_b hs hn hu en (by rw [en]; exact (by decide : ¬ (Int32.ofNat 2 = (0 : Int32)))) (by rw [en]; exact (by decide : ¬ ((64 : Int32) < Int32.ofNat 2))) e0 rfl e1 rfl (by rw [en]; exact (by decide : (1 : Int32) < Int32.ofNat 2)) ((own_v1 q0).trans (own_w0 q1)) q0 ((own_wno q1).1) ((own_wno q1).2.1) ((own_wno q1).2.2)
    exact rmisv_o2 l Z a0 G1 fm hG ws a1 b kb cd z vs [e0, e1] nn h0 n0 Z0 X00 E_a1 F_coder_a1 F_value_a1 V_b hs hn hu en (by rw [en]; exact (by decide : ¬ (Int32.ofNat 2 = (0 : Int32)))) (by rw [en]; exact (by decide : ¬ ((64 : Int32) < Int32.ofNat 2))) e0 rfl e1 rfl (by rw [en]; exact (by decide : (1 : Int32) < Int32.ofNat 2)) q1 (by rw [en]; exact (by decide : ¬ ((2 : Int32) < Int32.ofNat 2))) ((own_v1 q0).trans ((own_w1 q1).trans rfl)) q0
  | [e0, e1, e2], hs, hn, hu, en =>
    by_cases q0 : own_letter e0 = 0
    · exact rmisv_n l Z a0 G1 fm hG ws a1 b kb cd z vs [e0, e1, e2] nn h0 n0 Z0 X00 E_a1 F_coder_a1 F_value_a1 V_b hs hn hu en (by rw [en]; exact (by decide : ¬ (Int32.ofNat 3 = (0 : Int32)))) (by rw [en]; exact (by decide : ¬ ((64 : Int32) < Int32.ofNat 3))) e0 rfl (own_v0 q0) q0
    by_cases q1 : own_word e1 = 0
    · exact rmisv_f1 l Z a0 G1 fm hG ws a1 b kb cd z vs [e0, e1, e2] nn h0 n0 Z0 X00 E_a1 F_coder_a1 F_value_a1 V_b hs hn hu en (by rw [en]; exact (by decide : ¬ (Int32.ofNat 3 = (0 : Int32)))) (by rw [en]; exact (by decide : ¬ ((64 : Int32) < Int32.ofNat 3))) e0 rfl e1 rfl (by rw [en]; exact (by decide : (1 : Int32) < Int32.ofNat 3)) ((own_v1 q0).trans (own_w0 q1)) q0 ((own_wno q1).1) ((own_wno q1).2.1) ((own_wno q1).2.2)
    by_cases q2 : own_word e2 = 0
    · exact rmisv_f2 l Z a0 G1 fm hG ws a1 b kb cd z vs [e0, e1, e2] nn h0 n0 Z0 X00 E_a1 F_coder_a1 F_value_a1 V_b hs hn hu en (by rw [en]; exact (by decide : ¬ (Int32.ofNat 3 = (0 : Int32)))) (by rw [en]; exact (by decide : ¬ ((64 : Int32) < Int32.ofNat 3))) e0 rfl e1 rfl (by rw [en]; exact (by decide : (1 : Int32) < Int32.ofNat 3)) e2 rfl (by rw [en]; exact (by decide : (2 : Int32) < Int32.ofNat 3)) q1 ((own_v1 q0).trans ((own_w1 q1).trans (own_w0 q2))) q0 ((own_wno q2).1) ((own_wno q2).2.1) ((own_wno q2).2.2)
    exact rmisv_o3 l Z a0 G1 fm hG ws a1 b kb cd z vs [e0, e1, e2] nn h0 n0 Z0 X00 E_a1 F_coder_a1 F_value_a1 V_b hs hn hu en (by rw [en]; exact (by decide : ¬ (Int32.ofNat 3 = (0 : Int32)))) (by rw [en]; exact (by decide : ¬ ((64 : Int32) < Int32.ofNat 3))) e0 rfl e1 rfl (by rw [en]; exact (by decide : (1 : Int32) < Int32.ofNat 3)) e2 rfl (by rw [en]; exact (by decide : (2 : Int32) < Int32.ofNat 3)) q1 q2 (by rw [en]; exact (by decide : ¬ ((3 : Int32) < Int32.ofNat 3))) ((own_v1 q0).trans ((own_w1 q1).trans ((own_w1 q2).trans rfl))) q0
  | [e0, e1, e2, e3], hs, hn, hu, en =>
    by_cases q0 : own_letter e0 = 0
    · exact rmisv_n l Z a0 G1 fm hG ws a1 b kb cd z vs [e0, e1, e2, e3] nn h0 n0 Z0 X00 E_a1 F_coder_a1 F_value_a1 V_b hs hn hu en (by rw [en]; exact (by decide : ¬ (Int32.ofNat 4 = (0 : Int32)))) (by rw [en]; exact (by decide : ¬ ((64 : Int32) < Int32.ofNat 4))) e0 rfl (own_v0 q0) q0
    by_cases q1 : own_word e1 = 0
    · exact rmisv_f1 l Z a0 G1 fm hG ws a1 b kb cd z vs [e0, e1, e2, e3] nn h0 n0 Z0 X00 E_a1 F_coder_a1 F_value_a1 V_b hs hn hu en (by rw [en]; exact (by decide : ¬ (Int32.ofNat 4 = (0 : Int32)))) (by rw [en]; exact (by decide : ¬ ((64 : Int32) < Int32.ofNat 4))) e0 rfl e1 rfl (by rw [en]; exact (by decide : (1 : Int32) < Int32.ofNat 4)) ((own_v1 q0).trans (own_w0 q1)) q0 ((own_wno q1).1) ((own_wno q1).2.1) ((own_wno q1).2.2)
    by_cases q2 : own_word e2 = 0
    · exact rmisv_f2 l Z a0 G1 fm hG ws a1 b kb cd z vs [e0, e1, e2, e3] nn h0 n0 Z0 X00 E_a1 F_coder_a1 F_value_a1 V_b hs hn hu en (by rw [en]; exact (by decide : ¬ (Int32.ofNat 4 = (0 : Int32)))) (by rw [en]; exact (by decide : ¬ ((64 : Int32) < Int32.ofNat 4))) e0 rfl e1 rfl (by rw [en]; exact (by decide : (1 : Int32) < Int32.ofNat 4)) e2 rfl (by rw [en]; exact (by decide : (2 : Int32) < Int32.ofNat 4)) q1 ((own_v1 q0).trans ((own_w1 q1).trans (own_w0 q2))) q0 ((own_wno q2).1) ((own_wno q2).2.1) ((own_wno q2).2.2)
    by_cases q3 : own_word e3 = 0
    · exact rmisv_f3 l Z a0 G1 fm hG ws a1 b kb cd z vs [e0, e1, e2, e3] nn h0 n0 Z0 X00 E_a1 F_coder_a1 F_value_a1 V_b hs hn hu en (by rw [en]; exact (by decide : ¬ (Int32.ofNat 4 = (0 : Int32)))) (by rw [en]; exact (by decide : ¬ ((64 : Int32) < Int32.ofNat 4))) e0 rfl e1 rfl (by rw [en]; exact (by decide : (1 : Int32) < Int32.ofNat 4)) e2 rfl (by rw [en]; exact (by decide : (2 : Int32) < Int32.ofNat 4)) e3 rfl (by rw [en]; exact (by decide : (3 : Int32) < Int32.ofNat 4)) q1 q2 ((own_v1 q0).trans ((own_w1 q1).trans ((own_w1 q2).trans (own_w0 q3)))) q0 ((own_wno q3).1) ((own_wno q3).2.1) ((own_wno q3).2.2)
    exact rmisv_o4 l Z a0 G1 fm hG ws a1 b kb cd z vs [e0, e1, e2, e3] nn h0 n0 Z0 X00 E_a1 F_coder_a1 F_value_a1 V_b hs hn hu en (by rw [en]; exact (by decide : ¬ (Int32.ofNat 4 = (0 : Int32)))) (by rw [en]; exact (by decide : ¬ ((64 : Int32) < Int32.ofNat 4))) e0 rfl e1 rfl (by rw [en]; exact (by decide : (1 : Int32) < Int32.ofNat 4)) e2 rfl (by rw [en]; exact (by decide : (2 : Int32) < Int32.ofNat 4)) e3 rfl (by rw [en]; exact (by decide : (3 : Int32) < Int32.ofNat 4)) q1 q2 q3 (by rw [en]; exact (by decide : ¬ ((4 : Int32) < Int32.ofNat 4))) ((own_v1 q0).trans ((own_w1 q1).trans ((own_w1 q2).trans ((own_w1 q3).trans rfl)))) q0
  | e0 :: e1 :: e2 :: e3 :: e4 :: t, hs, hn, hu, en => exact absurd hn (by simp only [List.length_cons]; omega)
theorem sgexp_z {p : Program} {l : Launch} {e : Env} {s : State} {m : MethodId} {args : Array Value} {below : List Frame} {meth : Method} {c : Code} {T0 : State} {locs : List Loc} (Z : State) (a0 : Array Value) (G1 : Int32) (fm : Value) (hG : Glob Z a0 G1 fm) (p0 : Int32) (p1 : Int32) (p2 : Int32) (p3 : Int32) (p4 : Int32) (nn : Int32) (wd : Int32) (mk : Int32) (c0 : Int32) (c1 : Int32) (c2 : Int32) (c3 : Int32) (b1 : Addr) (b2 : Addr) (cs : List Int32) (kc : Nat) (ks : Nat) (h0 : Heap) (n0 : Nat) (Z0 : n0 ≤ h0.size) (X00 : Old Z n0 h0) (hfit : own_fit nn cs c0 c1 c2 c3) (hkc : kc + 0 ≤ room_1.cells) (hks : ks + 0 ≤ room_1.slots) (hv : own_valid cs = (0 : Int32)) (hc134 : nn < (1 : Int32)) (X0 : Stand p l e room_1 s m args below meth c T0 locs kc ks) (hx : p.tables.exec = Jvm.exec) (hZ : Z.Warmed39 s.vm) (hby : c.code = code) (hml : c.maxLocals = 15) (hown : s.vm.findClass "com/example/label_lattice/labellattice/NamesIsValidPinLaw" = some m.cls) (e0 : T0.heap = h0) (N0 : Fr n0 locs) :
    ∃ (T' : State) (L' : List Loc), Stand p l e room_1 s m args below meth c T' L' kc ks ∧ Fr n0 L' ∧ Keep h0 T'.heap [] ∧ ∀ target, Steps p.tables e below (T'.setTop (mkF m 192 #[.val (.int p0), .val (.int p1), .val (.int p2), .val (.int p3), .val (.int p4), .val (.int nn), .val (.int wd), .val (.int mk), .val (.int c0), .val (.int c1), .val (.int c2), .val (.int c3), .val (.ref b1), .val (.ref b2), .unset] [(.int (own_valid cs))])) target → Steps p.tables e below (T0.setTop (mkF m 131 #[.val (.int p0), .val (.int p1), .val (.int p2), .val (.int p3), .val (.int p4), .val (.int nn), .val (.int wd), .val (.int mk), .val (.int c0), .val (.int c1), .val (.int c2), .val (.int c3), .val (.ref b1), .val (.ref b2), .unset] [])) target := by
  obtain ⟨hw, O_cs, P_cs, O_as, O_hi, O_lo, O_fm, R_fm⟩ := id hG
  have W := @own_W _ _ hw
  have hB := @hb _ _ hby
  refine ⟨T0, _, X0, N0, ?_⟩
  rw [e0]
  refine ⟨(Keep.refl h0 []), fun target kt => ?_⟩
  show Steps _ _ _ (T0.setTop (mkF m 131 #[.val (.int p0), .val (.int p1), .val (.int p2), .val (.int p3), .val (.int p4), .val (.int nn), .val (.int wd), .val (.int mk), .val (.int c0), .val (.int c1), .val (.int c2), .val (.int c3), .val (.ref b1), .val (.ref b2), .unset] [])) _
  refine XS.iload X0.here hx rfl (hB at_131) rfl ?_
  refine XS.iconst X0.here hx rfl (hB at_133) ?_
  refine XS.icmpYes X0.here hx rfl (pc0 := 134) (pc' := 191) rfl (hB at_134) rfl (tlt (hc134 : nn < (1 : Int32))).1 (by decide) (by decide) ?_
  refine XS.iconst X0.here hx rfl (hB at_191) ?_
  rw [hv] at kt
  exact kt
theorem sgexp_l {p : Program} {l : Launch} {e : Env} {s : State} {m : MethodId} {args : Array Value} {below : List Frame} {meth : Method} {c : Code} {T0 : State} {locs : List Loc} (Z : State) (a0 : Array Value) (G1 : Int32) (fm : Value) (hG : Glob Z a0 G1 fm) (p0 : Int32) (p1 : Int32) (p2 : Int32) (p3 : Int32) (p4 : Int32) (nn : Int32) (wd : Int32) (mk : Int32) (c0 : Int32) (c1 : Int32) (c2 : Int32) (c3 : Int32) (b1 : Addr) (b2 : Addr) (cs : List Int32) (kc : Nat) (ks : Nat) (h0 : Heap) (n0 : Nat) (Z0 : n0 ≤ h0.size) (X00 : Old Z n0 h0) (hfit : own_fit nn cs c0 c1 c2 c3) (hkc : kc + 0 ≤ room_1.cells) (hks : ks + 0 ≤ room_1.slots) (hv : own_valid cs = (0 : Int32)) (hc134 : ¬ (nn < (1 : Int32))) (hc142 : (own_letter c0) = (0 : Int32)) (X0 : Stand p l e room_1 s m args below meth c T0 locs kc ks) (hx : p.tables.exec = Jvm.exec) (hZ : Z.Warmed39 s.vm) (hby : c.code = code) (hml : c.maxLocals = 15) (hown : s.vm.findClass "com/example/label_lattice/labellattice/NamesIsValidPinLaw" = some m.cls) (e0 : T0.heap = h0) (N0 : Fr n0 locs) :
    ∃ (T' : State) (L' : List Loc), Stand p l e room_1 s m args below meth c T' L' kc ks ∧ Fr n0 L' ∧ Keep h0 T'.heap [] ∧ ∀ target, Steps p.tables e below (T'.setTop (mkF m 192 #[.val (.int p0), .val (.int p1), .val (.int p2), .val (.int p3), .val (.int p4), .val (.int nn), .val (.int wd), .val (.int mk), .val (.int c0), .val (.int c1), .val (.int c2), .val (.int c3), .val (.ref b1), .val (.ref b2), .unset] [(.int (own_valid cs))])) target → Steps p.tables e below (T0.setTop (mkF m 131 #[.val (.int p0), .val (.int p1), .val (.int p2), .val (.int p3), .val (.int p4), .val (.int nn), .val (.int wd), .val (.int mk), .val (.int c0), .val (.int c1), .val (.int c2), .val (.int c3), .val (.ref b1), .val (.ref b2), .unset] [])) target := by
  obtain ⟨hw, O_cs, P_cs, O_as, O_hi, O_lo, O_fm, R_fm⟩ := id hG
  have W := @own_W _ _ hw
  have hB := @hb _ _ hby
  -- pc 139: com/example/label_lattice/labellattice/NamesIsValidPinLaw.letter
  obtain ⟨_, _, ⟨T550, L550, k550, n550⟩, -, X550, ⟨Lc550, hQ550, l550, y550, z550⟩, st550⟩ := Jvm.LawKit.callS X0 hx (y := y21) hown (mvT hZ (W 48 rfl)) (mvT hZ (W 49 rfl)) (mvT hZ (W 50 rfl)) (mvT hZ (W 51 rfl)) (by decide) (backOf (W := 0) (rmlet l Z a0 G1 fm hG [] c0 h0 n0 Z0 X00) hZ (W 51 rfl) (W 50 rfl) (by decide) (by decide)) (g := (mkF m 139 #[.val (.int p0), .val (.int p1), .val (.int p2), .val (.int p3), .val (.int p4), .val (.int nn), .val (.int wd), .val (.int mk), .val (.int c0), .val (.int c1), .val (.int c2), .val (.int c3), .val (.ref b1), .val (.ref b2), .unset] [.int c0])) rfl (by rw [hml]; rfl) (argsL := [.int c0]) (rest := []) (lenOf pd__C_Z rfl) rfl (by show 2 * 0 + _ ≤ _; exact Nat.le_of_eq rfl) (hB at_139) (fun _ _ => ⟨rfl, e0, (hkc : kc + 0 ≤ _), (hks : ks + 0 ≤ _)⟩)
  dsimp only [Pt.U, Pt.locs, Pt.cells, Pt.slots] at X550 l550 y550 z550 st550 hQ550
  subst l550 y550 z550
  obtain ⟨rfl, N550q, eq550⟩ := hQ550
  have N550 := Fr.app N0 N550q
  refine ⟨T550, _, X550, N550, ?_⟩
  rw [eq550]
  refine ⟨(Keep.refl h0 []), fun target kt => ?_⟩
  show Steps _ _ _ (T0.setTop (mkF m 131 #[.val (.int p0), .val (.int p1), .val (.int p2), .val (.int p3), .val (.int p4), .val (.int nn), .val (.int wd), .val (.int mk), .val (.int c0), .val (.int c1), .val (.int c2), .val (.int c3), .val (.ref b1), .val (.ref b2), .unset] [])) _
  refine XS.iload X0.here hx rfl (hB at_131) rfl ?_
  refine XS.iconst X0.here hx rfl (hB at_133) ?_
  refine XS.icmpNo X0.here hx rfl (hB at_134) rfl (flt (hc134 : ¬ (nn < (1 : Int32)))).1 ?_
  refine XS.iload X0.here hx rfl (hB at_137) rfl ?_
  refine st550 _ ?_
  show Steps _ _ _ (T550.setTop (mkF m 142 #[.val (.int p0), .val (.int p1), .val (.int p2), .val (.int p3), .val (.int p4), .val (.int nn), .val (.int wd), .val (.int mk), .val (.int c0), .val (.int c1), .val (.int c2), .val (.int c3), .val (.ref b1), .val (.ref b2), .unset] [(.int (own_letter c0))])) _
  refine XS.ifYes X550.here hx rfl (pc0 := 142) (pc' := 191) rfl (hB at_142) rfl ((if0 _ _).trans (teq (hc142 : (own_letter c0) = (0 : Int32))).1) (by decide) (by decide) ?_
  refine XS.iconst X550.here hx rfl (hB at_191) ?_
  rw [hv] at kt
  exact kt
theorem sgexp_f1 {p : Program} {l : Launch} {e : Env} {s : State} {m : MethodId} {args : Array Value} {below : List Frame} {meth : Method} {c : Code} {T0 : State} {locs : List Loc} (Z : State) (a0 : Array Value) (G1 : Int32) (fm : Value) (hG : Glob Z a0 G1 fm) (p0 : Int32) (p1 : Int32) (p2 : Int32) (p3 : Int32) (p4 : Int32) (nn : Int32) (wd : Int32) (mk : Int32) (c0 : Int32) (c1 : Int32) (c2 : Int32) (c3 : Int32) (b1 : Addr) (b2 : Addr) (cs : List Int32) (kc : Nat) (ks : Nat) (h0 : Heap) (n0 : Nat) (Z0 : n0 ≤ h0.size) (X00 : Old Z n0 h0) (hfit : own_fit nn cs c0 c1 c2 c3) (hkc : kc + 0 ≤ room_1.cells) (hks : ks + 0 ≤ room_1.slots) (hv : own_valid cs = (0 : Int32)) (hc134 : ¬ (nn < (1 : Int32))) (hc142 : ¬ ((own_letter c0) = (0 : Int32))) (hc148 : ¬ (nn < (2 : Int32))) (hc156 : (own_word c1) = (0 : Int32)) (X0 : Stand p l e room_1 s m args below meth c T0 locs kc ks) (hx : p.tables.exec = Jvm.exec) (hZ : Z.Warmed39 s.vm) (hby : c.code = code) (hml : c.maxLocals = 15) (hown : s.vm.findClass "com/example/label_lattice/labellattice/NamesIsValidPinLaw" = some m.cls) (e0 : T0.heap = h0) (N0 : Fr n0 locs) :
    ∃ (T' : State) (L' : List Loc), Stand p l e room_1 s m args below meth c T' L' kc ks ∧ Fr n0 L' ∧ Keep h0 T'.heap [] ∧ ∀ target, Steps p.tables e below (T'.setTop (mkF m 192 #[.val (.int p0), .val (.int p1), .val (.int p2), .val (.int p3), .val (.int p4), .val (.int nn), .val (.int wd), .val (.int mk), .val (.int c0), .val (.int c1), .val (.int c2), .val (.int c3), .val (.ref b1), .val (.ref b2), .unset] [(.int (own_valid cs))])) target → Steps p.tables e below (T0.setTop (mkF m 131 #[.val (.int p0), .val (.int p1), .val (.int p2), .val (.int p3), .val (.int p4), .val (.int nn), .val (.int wd), .val (.int mk), .val (.int c0), .val (.int c1), .val (.int c2), .val (.int c3), .val (.ref b1), .val (.ref b2), .unset] [])) target := by
  obtain ⟨hw, O_cs, P_cs, O_as, O_hi, O_lo, O_fm, R_fm⟩ := id hG
  have W := @own_W _ _ hw
  have hB := @hb _ _ hby
  -- pc 139: com/example/label_lattice/labellattice/NamesIsValidPinLaw.letter
  obtain ⟨_, _, ⟨T551, L551, k551, n551⟩, -, X551, ⟨Lc551, hQ551, l551, y551, z551⟩, st551⟩ := Jvm.LawKit.callS X0 hx (y := y21) hown (mvT hZ (W 48 rfl)) (mvT hZ (W 49 rfl)) (mvT hZ (W 50 rfl)) (mvT hZ (W 51 rfl)) (by decide) (backOf (W := 0) (rmlet l Z a0 G1 fm hG [] c0 h0 n0 Z0 X00) hZ (W 51 rfl) (W 50 rfl) (by decide) (by decide)) (g := (mkF m 139 #[.val (.int p0), .val (.int p1), .val (.int p2), .val (.int p3), .val (.int p4), .val (.int nn), .val (.int wd), .val (.int mk), .val (.int c0), .val (.int c1), .val (.int c2), .val (.int c3), .val (.ref b1), .val (.ref b2), .unset] [.int c0])) rfl (by rw [hml]; rfl) (argsL := [.int c0]) (rest := []) (lenOf pd__C_Z rfl) rfl (by show 2 * 0 + _ ≤ _; exact Nat.le_of_eq rfl) (hB at_139) (fun _ _ => ⟨rfl, e0, (hkc : kc + 0 ≤ _), (hks : ks + 0 ≤ _)⟩)
  dsimp only [Pt.U, Pt.locs, Pt.cells, Pt.slots] at X551 l551 y551 z551 st551 hQ551
  subst l551 y551 z551
  obtain ⟨rfl, N551q, eq551⟩ := hQ551
  have N551 := Fr.app N0 N551q
  -- pc 153: com/example/label_lattice/labellattice/NamesIsValidPinLaw.wordChar
  obtain ⟨_, _, ⟨T552, L552, k552, n552⟩, -, X552, ⟨Lc552, hQ552, l552, y552, z552⟩, st552⟩ := Jvm.LawKit.callS X551 hx (y := y23) hown (mvT hZ (W 77 rfl)) (mvT hZ (W 78 rfl)) (mvT hZ (W 50 rfl)) (mvT hZ (W 79 rfl)) (by decide) (backOf (W := 0) (rmwch l Z a0 G1 fm hG [] c1 h0 n0 Z0 X00) hZ (W 79 rfl) (W 50 rfl) (by decide) (by decide)) (g := (mkF m 153 #[.val (.int p0), .val (.int p1), .val (.int p2), .val (.int p3), .val (.int p4), .val (.int nn), .val (.int wd), .val (.int mk), .val (.int c0), .val (.int c1), .val (.int c2), .val (.int c3), .val (.ref b1), .val (.ref b2), .unset] [.int c1])) rfl (by rw [hml]; rfl) (argsL := [.int c1]) (rest := []) (lenOf pd__C_Z rfl) rfl (by show 2 * 0 + _ ≤ _; exact Nat.le_of_eq rfl) (hB at_153) (fun _ _ => ⟨rfl, eq551, (hkc : k551 + 0 ≤ _), (hks : n551 + 0 ≤ _)⟩)
  dsimp only [Pt.U, Pt.locs, Pt.cells, Pt.slots] at X552 l552 y552 z552 st552 hQ552
  subst l552 y552 z552
  obtain ⟨rfl, N552q, eq552⟩ := hQ552
  have N552 := Fr.app N551 N552q
  refine ⟨T552, _, X552, N552, ?_⟩
  rw [eq552]
  refine ⟨(Keep.refl h0 []), fun target kt => ?_⟩
  show Steps _ _ _ (T0.setTop (mkF m 131 #[.val (.int p0), .val (.int p1), .val (.int p2), .val (.int p3), .val (.int p4), .val (.int nn), .val (.int wd), .val (.int mk), .val (.int c0), .val (.int c1), .val (.int c2), .val (.int c3), .val (.ref b1), .val (.ref b2), .unset] [])) _
  refine XS.iload X0.here hx rfl (hB at_131) rfl ?_
  refine XS.iconst X0.here hx rfl (hB at_133) ?_
  refine XS.icmpNo X0.here hx rfl (hB at_134) rfl (flt (hc134 : ¬ (nn < (1 : Int32)))).1 ?_
  refine XS.iload X0.here hx rfl (hB at_137) rfl ?_
  refine st551 _ ?_
  show Steps _ _ _ (T551.setTop (mkF m 142 #[.val (.int p0), .val (.int p1), .val (.int p2), .val (.int p3), .val (.int p4), .val (.int nn), .val (.int wd), .val (.int mk), .val (.int c0), .val (.int c1), .val (.int c2), .val (.int c3), .val (.ref b1), .val (.ref b2), .unset] [(.int (own_letter c0))])) _
  refine XS.ifNo X551.here hx rfl (hB at_142) rfl ((if0 _ _).trans (feq (hc142 : ¬ ((own_letter c0) = (0 : Int32)))).1) ?_
  refine XS.iload X551.here hx rfl (hB at_145) rfl ?_
  refine XS.iconst X551.here hx rfl (hB at_147) ?_
  refine XS.icmpNo X551.here hx rfl (hB at_148) rfl (flt (hc148 : ¬ (nn < (2 : Int32)))).1 ?_
  refine XS.iload X551.here hx rfl (hB at_151) rfl ?_
  refine st552 _ ?_
  show Steps _ _ _ (T552.setTop (mkF m 156 #[.val (.int p0), .val (.int p1), .val (.int p2), .val (.int p3), .val (.int p4), .val (.int nn), .val (.int wd), .val (.int mk), .val (.int c0), .val (.int c1), .val (.int c2), .val (.int c3), .val (.ref b1), .val (.ref b2), .unset] [(.int (own_word c1))])) _
  refine XS.ifYes X552.here hx rfl (pc0 := 156) (pc' := 191) rfl (hB at_156) rfl ((if0 _ _).trans (teq (hc156 : (own_word c1) = (0 : Int32))).1) (by decide) (by decide) ?_
  refine XS.iconst X552.here hx rfl (hB at_191) ?_
  rw [hv] at kt
  exact kt
theorem sgexp_f2 {p : Program} {l : Launch} {e : Env} {s : State} {m : MethodId} {args : Array Value} {below : List Frame} {meth : Method} {c : Code} {T0 : State} {locs : List Loc} (Z : State) (a0 : Array Value) (G1 : Int32) (fm : Value) (hG : Glob Z a0 G1 fm) (p0 : Int32) (p1 : Int32) (p2 : Int32) (p3 : Int32) (p4 : Int32) (nn : Int32) (wd : Int32) (mk : Int32) (c0 : Int32) (c1 : Int32) (c2 : Int32) (c3 : Int32) (b1 : Addr) (b2 : Addr) (cs : List Int32) (kc : Nat) (ks : Nat) (h0 : Heap) (n0 : Nat) (Z0 : n0 ≤ h0.size) (X00 : Old Z n0 h0) (hfit : own_fit nn cs c0 c1 c2 c3) (hkc : kc + 0 ≤ room_1.cells) (hks : ks + 0 ≤ room_1.slots) (hv : own_valid cs = (0 : Int32)) (hc134 : ¬ (nn < (1 : Int32))) (hc142 : ¬ ((own_letter c0) = (0 : Int32))) (hc148 : ¬ (nn < (2 : Int32))) (hc156 : ¬ ((own_word c1) = (0 : Int32))) (hc162 : ¬ (nn < (3 : Int32))) (hc170 : (own_word c2) = (0 : Int32)) (X0 : Stand p l e room_1 s m args below meth c T0 locs kc ks) (hx : p.tables.exec = Jvm.exec) (hZ : Z.Warmed39 s.vm) (hby : c.code = code) (hml : c.maxLocals = 15) (hown : s.vm.findClass "com/example/label_lattice/labellattice/NamesIsValidPinLaw" = some m.cls) (e0 : T0.heap = h0) (N0 : Fr n0 locs) :
    ∃ (T' : State) (L' : List Loc), Stand p l e room_1 s m args below meth c T' L' kc ks ∧ Fr n0 L' ∧ Keep h0 T'.heap [] ∧ ∀ target, Steps p.tables e below (T'.setTop (mkF m 192 #[.val (.int p0), .val (.int p1), .val (.int p2), .val (.int p3), .val (.int p4), .val (.int nn), .val (.int wd), .val (.int mk), .val (.int c0), .val (.int c1), .val (.int c2), .val (.int c3), .val (.ref b1), .val (.ref b2), .unset] [(.int (own_valid cs))])) target → Steps p.tables e below (T0.setTop (mkF m 131 #[.val (.int p0), .val (.int p1), .val (.int p2), .val (.int p3), .val (.int p4), .val (.int nn), .val (.int wd), .val (.int mk), .val (.int c0), .val (.int c1), .val (.int c2), .val (.int c3), .val (.ref b1), .val (.ref b2), .unset] [])) target := by
  obtain ⟨hw, O_cs, P_cs, O_as, O_hi, O_lo, O_fm, R_fm⟩ := id hG
  have W := @own_W _ _ hw
  have hB := @hb _ _ hby
  -- pc 139: com/example/label_lattice/labellattice/NamesIsValidPinLaw.letter
  obtain ⟨_, _, ⟨T553, L553, k553, n553⟩, -, X553, ⟨Lc553, hQ553, l553, y553, z553⟩, st553⟩ := Jvm.LawKit.callS X0 hx (y := y21) hown (mvT hZ (W 48 rfl)) (mvT hZ (W 49 rfl)) (mvT hZ (W 50 rfl)) (mvT hZ (W 51 rfl)) (by decide) (backOf (W := 0) (rmlet l Z a0 G1 fm hG [] c0 h0 n0 Z0 X00) hZ (W 51 rfl) (W 50 rfl) (by decide) (by decide)) (g := (mkF m 139 #[.val (.int p0), .val (.int p1), .val (.int p2), .val (.int p3), .val (.int p4), .val (.int nn), .val (.int wd), .val (.int mk), .val (.int c0), .val (.int c1), .val (.int c2), .val (.int c3), .val (.ref b1), .val (.ref b2), .unset] [.int c0])) rfl (by rw [hml]; rfl) (argsL := [.int c0]) (rest := []) (lenOf pd__C_Z rfl) rfl (by show 2 * 0 + _ ≤ _; exact Nat.le_of_eq rfl) (hB at_139) (fun _ _ => ⟨rfl, e0, (hkc : kc + 0 ≤ _), (hks : ks + 0 ≤ _)⟩)
  dsimp only [Pt.U, Pt.locs, Pt.cells, Pt.slots] at X553 l553 y553 z553 st553 hQ553
  subst l553 y553 z553
  obtain ⟨rfl, N553q, eq553⟩ := hQ553
  have N553 := Fr.app N0 N553q
  -- pc 153: com/example/label_lattice/labellattice/NamesIsValidPinLaw.wordChar
  obtain ⟨_, _, ⟨T554, L554, k554, n554⟩, -, X554, ⟨Lc554, hQ554, l554, y554, z554⟩, st554⟩ := Jvm.LawKit.callS X553 hx (y := y23) hown (mvT hZ (W 77 rfl)) (mvT hZ (W 78 rfl)) (mvT hZ (W 50 rfl)) (mvT hZ (W 79 rfl)) (by decide) (backOf (W := 0) (rmwch l Z a0 G1 fm hG [] c1 h0 n0 Z0 X00) hZ (W 79 rfl) (W 50 rfl) (by decide) (by decide)) (g := (mkF m 153 #[.val (.int p0), .val (.int p1), .val (.int p2), .val (.int p3), .val (.int p4), .val (.int nn), .val (.int wd), .val (.int mk), .val (.int c0), .val (.int c1), .val (.int c2), .val (.int c3), .val (.ref b1), .val (.ref b2), .unset] [.int c1])) rfl (by rw [hml]; rfl) (argsL := [.int c1]) (rest := []) (lenOf pd__C_Z rfl) rfl (by show 2 * 0 + _ ≤ _; exact Nat.le_of_eq rfl) (hB at_153) (fun _ _ => ⟨rfl, eq553, (hkc : k553 + 0 ≤ _), (hks : n553 + 0 ≤ _)⟩)
  dsimp only [Pt.U, Pt.locs, Pt.cells, Pt.slots] at X554 l554 y554 z554 st554 hQ554
  subst l554 y554 z554
  obtain ⟨rfl, N554q, eq554⟩ := hQ554
  have N554 := Fr.app N553 N554q
  -- pc 167: com/example/label_lattice/labellattice/NamesIsValidPinLaw.wordChar
  obtain ⟨_, _, ⟨T555, L555, k555, n555⟩, -, X555, ⟨Lc555, hQ555, l555, y555, z555⟩, st555⟩ := Jvm.LawKit.callS X554 hx (y := y23) hown (mvT hZ (W 77 rfl)) (mvT hZ (W 78 rfl)) (mvT hZ (W 50 rfl)) (mvT hZ (W 79 rfl)) (by decide) (backOf (W := 0) (rmwch l Z a0 G1 fm hG [] c2 h0 n0 Z0 X00) hZ (W 79 rfl) (W 50 rfl) (by decide) (by decide)) (g := (mkF m 167 #[.val (.int p0), .val (.int p1), .val (.int p2), .val (.int p3), .val (.int p4), .val (.int nn), .val (.int wd), .val (.int mk), .val (.int c0), .val (.int c1), .val (.int c2), .val (.int c3), .val (.ref b1), .val (.ref b2), .unset] [.int c2])) rfl (by rw [hml]; rfl) (argsL := [.int c2]) (rest := []) (lenOf pd__C_Z rfl) rfl (by show 2 * 0 + _ ≤ _; exact Nat.le_of_eq rfl) (hB at_167) (fun _ _ => ⟨rfl, eq554, (hkc : k554 + 0 ≤ _), (hks : n554 + 0 ≤ _)⟩)
  dsimp only [Pt.U, Pt.locs, Pt.cells, Pt.slots] at X555 l555 y555 z555 st555 hQ555
  subst l555 y555 z555
  obtain ⟨rfl, N555q, eq555⟩ := hQ555
  have N555 := Fr.app N554 N555q
  refine ⟨T555, _, X555, N555, ?_⟩
  rw [eq555]
  refine ⟨(Keep.refl h0 []), fun target kt => ?_⟩
  show Steps _ _ _ (T0.setTop (mkF m 131 #[.val (.int p0), .val (.int p1), .val (.int p2), .val (.int p3), .val (.int p4), .val (.int nn), .val (.int wd), .val (.int mk), .val (.int c0), .val (.int c1), .val (.int c2), .val (.int c3), .val (.ref b1), .val (.ref b2), .unset] [])) _
  refine XS.iload X0.here hx rfl (hB at_131) rfl ?_
  refine XS.iconst X0.here hx rfl (hB at_133) ?_
  refine XS.icmpNo X0.here hx rfl (hB at_134) rfl (flt (hc134 : ¬ (nn < (1 : Int32)))).1 ?_
  refine XS.iload X0.here hx rfl (hB at_137) rfl ?_
  refine st553 _ ?_
  show Steps _ _ _ (T553.setTop (mkF m 142 #[.val (.int p0), .val (.int p1), .val (.int p2), .val (.int p3), .val (.int p4), .val (.int nn), .val (.int wd), .val (.int mk), .val (.int c0), .val (.int c1), .val (.int c2), .val (.int c3), .val (.ref b1), .val (.ref b2), .unset] [(.int (own_letter c0))])) _
  refine XS.ifNo X553.here hx rfl (hB at_142) rfl ((if0 _ _).trans (feq (hc142 : ¬ ((own_letter c0) = (0 : Int32)))).1) ?_
  refine XS.iload X553.here hx rfl (hB at_145) rfl ?_
  refine XS.iconst X553.here hx rfl (hB at_147) ?_
  refine XS.icmpNo X553.here hx rfl (hB at_148) rfl (flt (hc148 : ¬ (nn < (2 : Int32)))).1 ?_
  refine XS.iload X553.here hx rfl (hB at_151) rfl ?_
  refine st554 _ ?_
  show Steps _ _ _ (T554.setTop (mkF m 156 #[.val (.int p0), .val (.int p1), .val (.int p2), .val (.int p3), .val (.int p4), .val (.int nn), .val (.int wd), .val (.int mk), .val (.int c0), .val (.int c1), .val (.int c2), .val (.int c3), .val (.ref b1), .val (.ref b2), .unset] [(.int (own_word c1))])) _
  refine XS.ifNo X554.here hx rfl (hB at_156) rfl ((if0 _ _).trans (feq (hc156 : ¬ ((own_word c1) = (0 : Int32)))).1) ?_
  refine XS.iload X554.here hx rfl (hB at_159) rfl ?_
  refine XS.iconst X554.here hx rfl (hB at_161) ?_
  refine XS.icmpNo X554.here hx rfl (hB at_162) rfl (flt (hc162 : ¬ (nn < (3 : Int32)))).1 ?_
  refine XS.iload X554.here hx rfl (hB at_165) rfl ?_
  refine st555 _ ?_
  show Steps _ _ _ (T555.setTop (mkF m 170 #[.val (.int p0), .val (.int p1), .val (.int p2), .val (.int p3), .val (.int p4), .val (.int nn), .val (.int wd), .val (.int mk), .val (.int c0), .val (.int c1), .val (.int c2), .val (.int c3), .val (.ref b1), .val (.ref b2), .unset] [(.int (own_word c2))])) _
  refine XS.ifYes X555.here hx rfl (pc0 := 170) (pc' := 191) rfl (hB at_170) rfl ((if0 _ _).trans (teq (hc170 : (own_word c2) = (0 : Int32))).1) (by decide) (by decide) ?_
  refine XS.iconst X555.here hx rfl (hB at_191) ?_
  rw [hv] at kt
  exact kt
theorem sgexp_f3 {p : Program} {l : Launch} {e : Env} {s : State} {m : MethodId} {args : Array Value} {below : List Frame} {meth : Method} {c : Code} {T0 : State} {locs : List Loc} (Z : State) (a0 : Array Value) (G1 : Int32) (fm : Value) (hG : Glob Z a0 G1 fm) (p0 : Int32) (p1 : Int32) (p2 : Int32) (p3 : Int32) (p4 : Int32) (nn : Int32) (wd : Int32) (mk : Int32) (c0 : Int32) (c1 : Int32) (c2 : Int32) (c3 : Int32) (b1 : Addr) (b2 : Addr) (cs : List Int32) (kc : Nat) (ks : Nat) (h0 : Heap) (n0 : Nat) (Z0 : n0 ≤ h0.size) (X00 : Old Z n0 h0) (hfit : own_fit nn cs c0 c1 c2 c3) (hkc : kc + 0 ≤ room_1.cells) (hks : ks + 0 ≤ room_1.slots) (hv : own_valid cs = (0 : Int32)) (hc134 : ¬ (nn < (1 : Int32))) (hc142 : ¬ ((own_letter c0) = (0 : Int32))) (hc148 : ¬ (nn < (2 : Int32))) (hc156 : ¬ ((own_word c1) = (0 : Int32))) (hc162 : ¬ (nn < (3 : Int32))) (hc170 : ¬ ((own_word c2) = (0 : Int32))) (hc176 : ¬ (nn < (4 : Int32))) (hc184 : (own_word c3) = (0 : Int32)) (X0 : Stand p l e room_1 s m args below meth c T0 locs kc ks) (hx : p.tables.exec = Jvm.exec) (hZ : Z.Warmed39 s.vm) (hby : c.code = code) (hml : c.maxLocals = 15) (hown : s.vm.findClass "com/example/label_lattice/labellattice/NamesIsValidPinLaw" = some m.cls) (e0 : T0.heap = h0) (N0 : Fr n0 locs) :
    ∃ (T' : State) (L' : List Loc), Stand p l e room_1 s m args below meth c T' L' kc ks ∧ Fr n0 L' ∧ Keep h0 T'.heap [] ∧ ∀ target, Steps p.tables e below (T'.setTop (mkF m 192 #[.val (.int p0), .val (.int p1), .val (.int p2), .val (.int p3), .val (.int p4), .val (.int nn), .val (.int wd), .val (.int mk), .val (.int c0), .val (.int c1), .val (.int c2), .val (.int c3), .val (.ref b1), .val (.ref b2), .unset] [(.int (own_valid cs))])) target → Steps p.tables e below (T0.setTop (mkF m 131 #[.val (.int p0), .val (.int p1), .val (.int p2), .val (.int p3), .val (.int p4), .val (.int nn), .val (.int wd), .val (.int mk), .val (.int c0), .val (.int c1), .val (.int c2), .val (.int c3), .val (.ref b1), .val (.ref b2), .unset] [])) target := by
  obtain ⟨hw, O_cs, P_cs, O_as, O_hi, O_lo, O_fm, R_fm⟩ := id hG
  have W := @own_W _ _ hw
  have hB := @hb _ _ hby
  -- pc 139: com/example/label_lattice/labellattice/NamesIsValidPinLaw.letter
  obtain ⟨_, _, ⟨T556, L556, k556, n556⟩, -, X556, ⟨Lc556, hQ556, l556, y556, z556⟩, st556⟩ := Jvm.LawKit.callS X0 hx (y := y21) hown (mvT hZ (W 48 rfl)) (mvT hZ (W 49 rfl)) (mvT hZ (W 50 rfl)) (mvT hZ (W 51 rfl)) (by decide) (backOf (W := 0) (rmlet l Z a0 G1 fm hG [] c0 h0 n0 Z0 X00) hZ (W 51 rfl) (W 50 rfl) (by decide) (by decide)) (g := (mkF m 139 #[.val (.int p0), .val (.int p1), .val (.int p2), .val (.int p3), .val (.int p4), .val (.int nn), .val (.int wd), .val (.int mk), .val (.int c0), .val (.int c1), .val (.int c2), .val (.int c3), .val (.ref b1), .val (.ref b2), .unset] [.int c0])) rfl (by rw [hml]; rfl) (argsL := [.int c0]) (rest := []) (lenOf pd__C_Z rfl) rfl (by show 2 * 0 + _ ≤ _; exact Nat.le_of_eq rfl) (hB at_139) (fun _ _ => ⟨rfl, e0, (hkc : kc + 0 ≤ _), (hks : ks + 0 ≤ _)⟩)
  dsimp only [Pt.U, Pt.locs, Pt.cells, Pt.slots] at X556 l556 y556 z556 st556 hQ556
  subst l556 y556 z556
  obtain ⟨rfl, N556q, eq556⟩ := hQ556
  have N556 := Fr.app N0 N556q
  -- pc 153: com/example/label_lattice/labellattice/NamesIsValidPinLaw.wordChar
  obtain ⟨_, _, ⟨T557, L557, k557, n557⟩, -, X557, ⟨Lc557, hQ557, l557, y557, z557⟩, st557⟩ := Jvm.LawKit.callS X556 hx (y := y23) hown (mvT hZ (W 77 rfl)) (mvT hZ (W 78 rfl)) (mvT hZ (W 50 rfl)) (mvT hZ (W 79 rfl)) (by decide) (backOf (W := 0) (rmwch l Z a0 G1 fm hG [] c1 h0 n0 Z0 X00) hZ (W 79 rfl) (W 50 rfl) (by decide) (by decide)) (g := (mkF m 153 #[.val (.int p0), .val (.int p1), .val (.int p2), .val (.int p3), .val (.int p4), .val (.int nn), .val (.int wd), .val (.int mk), .val (.int c0), .val (.int c1), .val (.int c2), .val (.int c3), .val (.ref b1), .val (.ref b2), .unset] [.int c1])) rfl (by rw [hml]; rfl) (argsL := [.int c1]) (rest := []) (lenOf pd__C_Z rfl) rfl (by show 2 * 0 + _ ≤ _; exact Nat.le_of_eq rfl) (hB at_153) (fun _ _ => ⟨rfl, eq556, (hkc : k556 + 0 ≤ _), (hks : n556 + 0 ≤ _)⟩)
  dsimp only [Pt.U, Pt.locs, Pt.cells, Pt.slots] at X557 l557 y557 z557 st557 hQ557
  subst l557 y557 z557
  obtain ⟨rfl, N557q, eq557⟩ := hQ557
  have N557 := Fr.app N556 N557q
  -- pc 167: com/example/label_lattice/labellattice/NamesIsValidPinLaw.wordChar
  obtain ⟨_, _, ⟨T558, L558, k558, n558⟩, -, X558, ⟨Lc558, hQ558, l558, y558, z558⟩, st558⟩ := Jvm.LawKit.callS X557 hx (y := y23) hown (mvT hZ (W 77 rfl)) (mvT hZ (W 78 rfl)) (mvT hZ (W 50 rfl)) (mvT hZ (W 79 rfl)) (by decide) (backOf (W := 0) (rmwch l Z a0 G1 fm hG [] c2 h0 n0 Z0 X00) hZ (W 79 rfl) (W 50 rfl) (by decide) (by decide)) (g := (mkF m 167 #[.val (.int p0), .val (.int p1), .val (.int p2), .val (.int p3), .val (.int p4), .val (.int nn), .val (.int wd), .val (.int mk), .val (.int c0), .val (.int c1), .val (.int c2), .val (.int c3), .val (.ref b1), .val (.ref b2), .unset] [.int c2])) rfl (by rw [hml]; rfl) (argsL := [.int c2]) (rest := []) (lenOf pd__C_Z rfl) rfl (by show 2 * 0 + _ ≤ _; exact Nat.le_of_eq rfl) (hB at_167) (fun _ _ => ⟨rfl, eq557, (hkc : k557 + 0 ≤ _), (hks : n557 + 0 ≤ _)⟩)
  dsimp only [Pt.U, Pt.locs, Pt.cells, Pt.slots] at X558 l558 y558 z558 st558 hQ558
  subst l558 y558 z558
  obtain ⟨rfl, N558q, eq558⟩ := hQ558
  have N558 := Fr.app N557 N558q
  -- pc 181: com/example/label_lattice/labellattice/NamesIsValidPinLaw.wordChar
  obtain ⟨_, _, ⟨T559, L559, k559, n559⟩, -, X559, ⟨Lc559, hQ559, l559, y559, z559⟩, st559⟩ := Jvm.LawKit.callS X558 hx (y := y23) hown (mvT hZ (W 77 rfl)) (mvT hZ (W 78 rfl)) (mvT hZ (W 50 rfl)) (mvT hZ (W 79 rfl)) (by decide) (backOf (W := 0) (rmwch l Z a0 G1 fm hG [] c3 h0 n0 Z0 X00) hZ (W 79 rfl) (W 50 rfl) (by decide) (by decide)) (g := (mkF m 181 #[.val (.int p0), .val (.int p1), .val (.int p2), .val (.int p3), .val (.int p4), .val (.int nn), .val (.int wd), .val (.int mk), .val (.int c0), .val (.int c1), .val (.int c2), .val (.int c3), .val (.ref b1), .val (.ref b2), .unset] [.int c3])) rfl (by rw [hml]; rfl) (argsL := [.int c3]) (rest := []) (lenOf pd__C_Z rfl) rfl (by show 2 * 0 + _ ≤ _; exact Nat.le_of_eq rfl) (hB at_181) (fun _ _ => ⟨rfl, eq558, (hkc : k558 + 0 ≤ _), (hks : n558 + 0 ≤ _)⟩)
  dsimp only [Pt.U, Pt.locs, Pt.cells, Pt.slots] at X559 l559 y559 z559 st559 hQ559
  subst l559 y559 z559
  obtain ⟨rfl, N559q, eq559⟩ := hQ559
  have N559 := Fr.app N558 N559q
  refine ⟨T559, _, X559, N559, ?_⟩
  rw [eq559]
  refine ⟨(Keep.refl h0 []), fun target kt => ?_⟩
  show Steps _ _ _ (T0.setTop (mkF m 131 #[.val (.int p0), .val (.int p1), .val (.int p2), .val (.int p3), .val (.int p4), .val (.int nn), .val (.int wd), .val (.int mk), .val (.int c0), .val (.int c1), .val (.int c2), .val (.int c3), .val (.ref b1), .val (.ref b2), .unset] [])) _
  refine XS.iload X0.here hx rfl (hB at_131) rfl ?_
  refine XS.iconst X0.here hx rfl (hB at_133) ?_
  refine XS.icmpNo X0.here hx rfl (hB at_134) rfl (flt (hc134 : ¬ (nn < (1 : Int32)))).1 ?_
  refine XS.iload X0.here hx rfl (hB at_137) rfl ?_
  refine st556 _ ?_
  show Steps _ _ _ (T556.setTop (mkF m 142 #[.val (.int p0), .val (.int p1), .val (.int p2), .val (.int p3), .val (.int p4), .val (.int nn), .val (.int wd), .val (.int mk), .val (.int c0), .val (.int c1), .val (.int c2), .val (.int c3), .val (.ref b1), .val (.ref b2), .unset] [(.int (own_letter c0))])) _
  refine XS.ifNo X556.here hx rfl (hB at_142) rfl ((if0 _ _).trans (feq (hc142 : ¬ ((own_letter c0) = (0 : Int32)))).1) ?_
  refine XS.iload X556.here hx rfl (hB at_145) rfl ?_
  refine XS.iconst X556.here hx rfl (hB at_147) ?_
  refine XS.icmpNo X556.here hx rfl (hB at_148) rfl (flt (hc148 : ¬ (nn < (2 : Int32)))).1 ?_
  refine XS.iload X556.here hx rfl (hB at_151) rfl ?_
  refine st557 _ ?_
  show Steps _ _ _ (T557.setTop (mkF m 156 #[.val (.int p0), .val (.int p1), .val (.int p2), .val (.int p3), .val (.int p4), .val (.int nn), .val (.int wd), .val (.int mk), .val (.int c0), .val (.int c1), .val (.int c2), .val (.int c3), .val (.ref b1), .val (.ref b2), .unset] [(.int (own_word c1))])) _
  refine XS.ifNo X557.here hx rfl (hB at_156) rfl ((if0 _ _).trans (feq (hc156 : ¬ ((own_word c1) = (0 : Int32)))).1) ?_
  refine XS.iload X557.here hx rfl (hB at_159) rfl ?_
  refine XS.iconst X557.here hx rfl (hB at_161) ?_
  refine XS.icmpNo X557.here hx rfl (hB at_162) rfl (flt (hc162 : ¬ (nn < (3 : Int32)))).1 ?_
  refine XS.iload X557.here hx rfl (hB at_165) rfl ?_
  refine st558 _ ?_
  show Steps _ _ _ (T558.setTop (mkF m 170 #[.val (.int p0), .val (.int p1), .val (.int p2), .val (.int p3), .val (.int p4), .val (.int nn), .val (.int wd), .val (.int mk), .val (.int c0), .val (.int c1), .val (.int c2), .val (.int c3), .val (.ref b1), .val (.ref b2), .unset] [(.int (own_word c2))])) _
  refine XS.ifNo X558.here hx rfl (hB at_170) rfl ((if0 _ _).trans (feq (hc170 : ¬ ((own_word c2) = (0 : Int32)))).1) ?_
  refine XS.iload X558.here hx rfl (hB at_173) rfl ?_
  refine XS.iconst X558.here hx rfl (hB at_175) ?_
  refine XS.icmpNo X558.here hx rfl (hB at_176) rfl (flt (hc176 : ¬ (nn < (4 : Int32)))).1 ?_
  refine XS.iload X558.here hx rfl (hB at_179) rfl ?_
  refine st559 _ ?_
  show Steps _ _ _ (T559.setTop (mkF m 184 #[.val (.int p0), .val (.int p1), .val (.int p2), .val (.int p3), .val (.int p4), .val (.int nn), .val (.int wd), .val (.int mk), .val (.int c0), .val (.int c1), .val (.int c2), .val (.int c3), .val (.ref b1), .val (.ref b2), .unset] [(.int (own_word c3))])) _
  refine XS.ifYes X559.here hx rfl (pc0 := 184) (pc' := 191) rfl (hB at_184) rfl ((if0 _ _).trans (teq (hc184 : (own_word c3) = (0 : Int32))).1) (by decide) (by decide) ?_
  refine XS.iconst X559.here hx rfl (hB at_191) ?_
  rw [hv] at kt
  exact kt
theorem sgexp_o1 {p : Program} {l : Launch} {e : Env} {s : State} {m : MethodId} {args : Array Value} {below : List Frame} {meth : Method} {c : Code} {T0 : State} {locs : List Loc} (Z : State) (a0 : Array Value) (G1 : Int32) (fm : Value) (hG : Glob Z a0 G1 fm) (p0 : Int32) (p1 : Int32) (p2 : Int32) (p3 : Int32) (p4 : Int32) (nn : Int32) (wd : Int32) (mk : Int32) (c0 : Int32) (c1 : Int32) (c2 : Int32) (c3 : Int32) (b1 : Addr) (b2 : Addr) (cs : List Int32) (kc : Nat) (ks : Nat) (h0 : Heap) (n0 : Nat) (Z0 : n0 ≤ h0.size) (X00 : Old Z n0 h0) (hfit : own_fit nn cs c0 c1 c2 c3) (hkc : kc + 0 ≤ room_1.cells) (hks : ks + 0 ≤ room_1.slots) (hv : own_valid cs = (1 : Int32)) (hc134 : ¬ (nn < (1 : Int32))) (hc142 : ¬ ((own_letter c0) = (0 : Int32))) (hc148 : nn < (2 : Int32)) (hc162 : nn < (3 : Int32)) (hc176 : nn < (4 : Int32)) (X0 : Stand p l e room_1 s m args below meth c T0 locs kc ks) (hx : p.tables.exec = Jvm.exec) (hZ : Z.Warmed39 s.vm) (hby : c.code = code) (hml : c.maxLocals = 15) (hown : s.vm.findClass "com/example/label_lattice/labellattice/NamesIsValidPinLaw" = some m.cls) (e0 : T0.heap = h0) (N0 : Fr n0 locs) :
    ∃ (T' : State) (L' : List Loc), Stand p l e room_1 s m args below meth c T' L' kc ks ∧ Fr n0 L' ∧ Keep h0 T'.heap [] ∧ ∀ target, Steps p.tables e below (T'.setTop (mkF m 192 #[.val (.int p0), .val (.int p1), .val (.int p2), .val (.int p3), .val (.int p4), .val (.int nn), .val (.int wd), .val (.int mk), .val (.int c0), .val (.int c1), .val (.int c2), .val (.int c3), .val (.ref b1), .val (.ref b2), .unset] [(.int (own_valid cs))])) target → Steps p.tables e below (T0.setTop (mkF m 131 #[.val (.int p0), .val (.int p1), .val (.int p2), .val (.int p3), .val (.int p4), .val (.int nn), .val (.int wd), .val (.int mk), .val (.int c0), .val (.int c1), .val (.int c2), .val (.int c3), .val (.ref b1), .val (.ref b2), .unset] [])) target := by
  obtain ⟨hw, O_cs, P_cs, O_as, O_hi, O_lo, O_fm, R_fm⟩ := id hG
  have W := @own_W _ _ hw
  have hB := @hb _ _ hby
  -- pc 139: com/example/label_lattice/labellattice/NamesIsValidPinLaw.letter
  obtain ⟨_, _, ⟨T560, L560, k560, n560⟩, -, X560, ⟨Lc560, hQ560, l560, y560, z560⟩, st560⟩ := Jvm.LawKit.callS X0 hx (y := y21) hown (mvT hZ (W 48 rfl)) (mvT hZ (W 49 rfl)) (mvT hZ (W 50 rfl)) (mvT hZ (W 51 rfl)) (by decide) (backOf (W := 0) (rmlet l Z a0 G1 fm hG [] c0 h0 n0 Z0 X00) hZ (W 51 rfl) (W 50 rfl) (by decide) (by decide)) (g := (mkF m 139 #[.val (.int p0), .val (.int p1), .val (.int p2), .val (.int p3), .val (.int p4), .val (.int nn), .val (.int wd), .val (.int mk), .val (.int c0), .val (.int c1), .val (.int c2), .val (.int c3), .val (.ref b1), .val (.ref b2), .unset] [.int c0])) rfl (by rw [hml]; rfl) (argsL := [.int c0]) (rest := []) (lenOf pd__C_Z rfl) rfl (by show 2 * 0 + _ ≤ _; exact Nat.le_of_eq rfl) (hB at_139) (fun _ _ => ⟨rfl, e0, (hkc : kc + 0 ≤ _), (hks : ks + 0 ≤ _)⟩)
  dsimp only [Pt.U, Pt.locs, Pt.cells, Pt.slots] at X560 l560 y560 z560 st560 hQ560
  subst l560 y560 z560
  obtain ⟨rfl, N560q, eq560⟩ := hQ560
  have N560 := Fr.app N0 N560q
  refine ⟨T560, _, X560, N560, ?_⟩
  rw [eq560]
  refine ⟨(Keep.refl h0 []), fun target kt => ?_⟩
  show Steps _ _ _ (T0.setTop (mkF m 131 #[.val (.int p0), .val (.int p1), .val (.int p2), .val (.int p3), .val (.int p4), .val (.int nn), .val (.int wd), .val (.int mk), .val (.int c0), .val (.int c1), .val (.int c2), .val (.int c3), .val (.ref b1), .val (.ref b2), .unset] [])) _
  refine XS.iload X0.here hx rfl (hB at_131) rfl ?_
  refine XS.iconst X0.here hx rfl (hB at_133) ?_
  refine XS.icmpNo X0.here hx rfl (hB at_134) rfl (flt (hc134 : ¬ (nn < (1 : Int32)))).1 ?_
  refine XS.iload X0.here hx rfl (hB at_137) rfl ?_
  refine st560 _ ?_
  show Steps _ _ _ (T560.setTop (mkF m 142 #[.val (.int p0), .val (.int p1), .val (.int p2), .val (.int p3), .val (.int p4), .val (.int nn), .val (.int wd), .val (.int mk), .val (.int c0), .val (.int c1), .val (.int c2), .val (.int c3), .val (.ref b1), .val (.ref b2), .unset] [(.int (own_letter c0))])) _
  refine XS.ifNo X560.here hx rfl (hB at_142) rfl ((if0 _ _).trans (feq (hc142 : ¬ ((own_letter c0) = (0 : Int32)))).1) ?_
  refine XS.iload X560.here hx rfl (hB at_145) rfl ?_
  refine XS.iconst X560.here hx rfl (hB at_147) ?_
  refine XS.icmpYes X560.here hx rfl (pc0 := 148) (pc' := 159) rfl (hB at_148) rfl (tlt (hc148 : nn < (2 : Int32))).1 (by decide) (by decide) ?_
  refine XS.iload X560.here hx rfl (hB at_159) rfl ?_
  refine XS.iconst X560.here hx rfl (hB at_161) ?_
  refine XS.icmpYes X560.here hx rfl (pc0 := 162) (pc' := 173) rfl (hB at_162) rfl (tlt (hc162 : nn < (3 : Int32))).1 (by decide) (by decide) ?_
  refine XS.iload X560.here hx rfl (hB at_173) rfl ?_
  refine XS.iconst X560.here hx rfl (hB at_175) ?_
  refine XS.icmpYes X560.here hx rfl (pc0 := 176) (pc' := 187) rfl (hB at_176) rfl (tlt (hc176 : nn < (4 : Int32))).1 (by decide) (by decide) ?_
  refine XS.iconst X560.here hx rfl (hB at_187) ?_
  refine XS.goto X560.here hx rfl (pc0 := 188) (pc' := 192) rfl (hB at_188) (by decide) (by decide) ?_
  rw [hv] at kt
  exact kt
theorem sgexp_o2 {p : Program} {l : Launch} {e : Env} {s : State} {m : MethodId} {args : Array Value} {below : List Frame} {meth : Method} {c : Code} {T0 : State} {locs : List Loc} (Z : State) (a0 : Array Value) (G1 : Int32) (fm : Value) (hG : Glob Z a0 G1 fm) (p0 : Int32) (p1 : Int32) (p2 : Int32) (p3 : Int32) (p4 : Int32) (nn : Int32) (wd : Int32) (mk : Int32) (c0 : Int32) (c1 : Int32) (c2 : Int32) (c3 : Int32) (b1 : Addr) (b2 : Addr) (cs : List Int32) (kc : Nat) (ks : Nat) (h0 : Heap) (n0 : Nat) (Z0 : n0 ≤ h0.size) (X00 : Old Z n0 h0) (hfit : own_fit nn cs c0 c1 c2 c3) (hkc : kc + 0 ≤ room_1.cells) (hks : ks + 0 ≤ room_1.slots) (hv : own_valid cs = (1 : Int32)) (hc134 : ¬ (nn < (1 : Int32))) (hc142 : ¬ ((own_letter c0) = (0 : Int32))) (hc148 : ¬ (nn < (2 : Int32))) (hc156 : ¬ ((own_word c1) = (0 : Int32))) (hc162 : nn < (3 : Int32)) (hc176 : nn < (4 : Int32)) (X0 : Stand p l e room_1 s m args below meth c T0 locs kc ks) (hx : p.tables.exec = Jvm.exec) (hZ : Z.Warmed39 s.vm) (hby : c.code = code) (hml : c.maxLocals = 15) (hown : s.vm.findClass "com/example/label_lattice/labellattice/NamesIsValidPinLaw" = some m.cls) (e0 : T0.heap = h0) (N0 : Fr n0 locs) :
    ∃ (T' : State) (L' : List Loc), Stand p l e room_1 s m args below meth c T' L' kc ks ∧ Fr n0 L' ∧ Keep h0 T'.heap [] ∧ ∀ target, Steps p.tables e below (T'.setTop (mkF m 192 #[.val (.int p0), .val (.int p1), .val (.int p2), .val (.int p3), .val (.int p4), .val (.int nn), .val (.int wd), .val (.int mk), .val (.int c0), .val (.int c1), .val (.int c2), .val (.int c3), .val (.ref b1), .val (.ref b2), .unset] [(.int (own_valid cs))])) target → Steps p.tables e below (T0.setTop (mkF m 131 #[.val (.int p0), .val (.int p1), .val (.int p2), .val (.int p3), .val (.int p4), .val (.int nn), .val (.int wd), .val (.int mk), .val (.int c0), .val (.int c1), .val (.int c2), .val (.int c3), .val (.ref b1), .val (.ref b2), .unset] [])) target := by
  obtain ⟨hw, O_cs, P_cs, O_as, O_hi, O_lo, O_fm, R_fm⟩ := id hG
  have W := @own_W _ _ hw
  have hB := @hb _ _ hby
  -- pc 139: com/example/label_lattice/labellattice/NamesIsValidPinLaw.letter
  obtain ⟨_, _, ⟨T561, L561, k561, n561⟩, -, X561, ⟨Lc561, hQ561, l561, y561, z561⟩, st561⟩ := Jvm.LawKit.callS X0 hx (y := y21) hown (mvT hZ (W 48 rfl)) (mvT hZ (W 49 rfl)) (mvT hZ (W 50 rfl)) (mvT hZ (W 51 rfl)) (by decide) (backOf (W := 0) (rmlet l Z a0 G1 fm hG [] c0 h0 n0 Z0 X00) hZ (W 51 rfl) (W 50 rfl) (by decide) (by decide)) (g := (mkF m 139 #[.val (.int p0), .val (.int p1), .val (.int p2), .val (.int p3), .val (.int p4), .val (.int nn), .val (.int wd), .val (.int mk), .val (.int c0), .val (.int c1), .val (.int c2), .val (.int c3), .val (.ref b1), .val (.ref b2), .unset] [.int c0])) rfl (by rw [hml]; rfl) (argsL := [.int c0]) (rest := []) (lenOf pd__C_Z rfl) rfl (by show 2 * 0 + _ ≤ _; exact Nat.le_of_eq rfl) (hB at_139) (fun _ _ => ⟨rfl, e0, (hkc : kc + 0 ≤ _), (hks : ks + 0 ≤ _)⟩)
  dsimp only [Pt.U, Pt.locs, Pt.cells, Pt.slots] at X561 l561 y561 z561 st561 hQ561
  subst l561 y561 z561
  obtain ⟨rfl, N561q, eq561⟩ := hQ561
  have N561 := Fr.app N0 N561q
  -- pc 153: com/example/label_lattice/labellattice/NamesIsValidPinLaw.wordChar
  obtain ⟨_, _, ⟨T562, L562, k562, n562⟩, -, X562, ⟨Lc562, hQ562, l562, y562, z562⟩, st562⟩ := Jvm.LawKit.callS X561 hx (y := y23) hown (mvT hZ (W 77 rfl)) (mvT hZ (W 78 rfl)) (mvT hZ (W 50 rfl)) (mvT hZ (W 79 rfl)) (by decide) (backOf (W := 0) (rmwch l Z a0 G1 fm hG [] c1 h0 n0 Z0 X00) hZ (W 79 rfl) (W 50 rfl) (by decide) (by decide)) (g := (mkF m 153 #[.val (.int p0), .val (.int p1), .val (.int p2), .val (.int p3), .val (.int p4), .val (.int nn), .val (.int wd), .val (.int mk), .val (.int c0), .val (.int c1), .val (.int c2), .val (.int c3), .val (.ref b1), .val (.ref b2), .unset] [.int c1])) rfl (by rw [hml]; rfl) (argsL := [.int c1]) (rest := []) (lenOf pd__C_Z rfl) rfl (by show 2 * 0 + _ ≤ _; exact Nat.le_of_eq rfl) (hB at_153) (fun _ _ => ⟨rfl, eq561, (hkc : k561 + 0 ≤ _), (hks : n561 + 0 ≤ _)⟩)
  dsimp only [Pt.U, Pt.locs, Pt.cells, Pt.slots] at X562 l562 y562 z562 st562 hQ562
  subst l562 y562 z562
  obtain ⟨rfl, N562q, eq562⟩ := hQ562
  have N562 := Fr.app N561 N562q
  refine ⟨T562, _, X562, N562, ?_⟩
  rw [eq562]
  refine ⟨(Keep.refl h0 []), fun target kt => ?_⟩
  show Steps _ _ _ (T0.setTop (mkF m 131 #[.val (.int p0), .val (.int p1), .val (.int p2), .val (.int p3), .val (.int p4), .val (.int nn), .val (.int wd), .val (.int mk), .val (.int c0), .val (.int c1), .val (.int c2), .val (.int c3), .val (.ref b1), .val (.ref b2), .unset] [])) _
  refine XS.iload X0.here hx rfl (hB at_131) rfl ?_
  refine XS.iconst X0.here hx rfl (hB at_133) ?_
  refine XS.icmpNo X0.here hx rfl (hB at_134) rfl (flt (hc134 : ¬ (nn < (1 : Int32)))).1 ?_
  refine XS.iload X0.here hx rfl (hB at_137) rfl ?_
  refine st561 _ ?_
  show Steps _ _ _ (T561.setTop (mkF m 142 #[.val (.int p0), .val (.int p1), .val (.int p2), .val (.int p3), .val (.int p4), .val (.int nn), .val (.int wd), .val (.int mk), .val (.int c0), .val (.int c1), .val (.int c2), .val (.int c3), .val (.ref b1), .val (.ref b2), .unset] [(.int (own_letter c0))])) _
  refine XS.ifNo X561.here hx rfl (hB at_142) rfl ((if0 _ _).trans (feq (hc142 : ¬ ((own_letter c0) = (0 : Int32)))).1) ?_
  refine XS.iload X561.here hx rfl (hB at_145) rfl ?_
  refine XS.iconst X561.here hx rfl (hB at_147) ?_
  refine XS.icmpNo X561.here hx rfl (hB at_148) rfl (flt (hc148 : ¬ (nn < (2 : Int32)))).1 ?_
  refine XS.iload X561.here hx rfl (hB at_151) rfl ?_
  refine st562 _ ?_
  show Steps _ _ _ (T562.setTop (mkF m 156 #[.val (.int p0), .val (.int p1), .val (.int p2), .val (.int p3), .val (.int p4), .val (.int nn), .val (.int wd), .val (.int mk), .val (.int c0), .val (.int c1), .val (.int c2), .val (.int c3), .val (.ref b1), .val (.ref b2), .unset] [(.int (own_word c1))])) _
  refine XS.ifNo X562.here hx rfl (hB at_156) rfl ((if0 _ _).trans (feq (hc156 : ¬ ((own_word c1) = (0 : Int32)))).1) ?_
  refine XS.iload X562.here hx rfl (hB at_159) rfl ?_
  refine XS.iconst X562.here hx rfl (hB at_161) ?_
  refine XS.icmpYes X562.here hx rfl (pc0 := 162) (pc' := 173) rfl (hB at_162) rfl (tlt (hc162 : nn < (3 : Int32))).1 (by decide) (by decide) ?_
  refine XS.iload X562.here hx rfl (hB at_173) rfl ?_
  refine XS.iconst X562.here hx rfl (hB at_175) ?_
  refine XS.icmpYes X562.here hx rfl (pc0 := 176) (pc' := 187) rfl (hB at_176) rfl (tlt (hc176 : nn < (4 : Int32))).1 (by decide) (by decide) ?_
  refine XS.iconst X562.here hx rfl (hB at_187) ?_
  refine XS.goto X562.here hx rfl (pc0 := 188) (pc' := 192) rfl (hB at_188) (by decide) (by decide) ?_
  rw [hv] at kt
  exact kt
theorem sgexp_o3 {p : Program} {l : Launch} {e : Env} {s : State} {m : MethodId} {args : Array Value} {below : List Frame} {meth : Method} {c : Code} {T0 : State} {locs : List Loc} (Z : State) (a0 : Array Value) (G1 : Int32) (fm : Value) (hG : Glob Z a0 G1 fm) (p0 : Int32) (p1 : Int32) (p2 : Int32) (p3 : Int32) (p4 : Int32) (nn : Int32) (wd : Int32) (mk : Int32) (c0 : Int32) (c1 : Int32) (c2 : Int32) (c3 : Int32) (b1 : Addr) (b2 : Addr) (cs : List Int32) (kc : Nat) (ks : Nat) (h0 : Heap) (n0 : Nat) (Z0 : n0 ≤ h0.size) (X00 : Old Z n0 h0) (hfit : own_fit nn cs c0 c1 c2 c3) (hkc : kc + 0 ≤ room_1.cells) (hks : ks + 0 ≤ room_1.slots) (hv : own_valid cs = (1 : Int32)) (hc134 : ¬ (nn < (1 : Int32))) (hc142 : ¬ ((own_letter c0) = (0 : Int32))) (hc148 : ¬ (nn < (2 : Int32))) (hc156 : ¬ ((own_word c1) = (0 : Int32))) (hc162 : ¬ (nn < (3 : Int32))) (hc170 : ¬ ((own_word c2) = (0 : Int32))) (hc176 : nn < (4 : Int32)) (X0 : Stand p l e room_1 s m args below meth c T0 locs kc ks) (hx : p.tables.exec = Jvm.exec) (hZ : Z.Warmed39 s.vm) (hby : c.code = code) (hml : c.maxLocals = 15) (hown : s.vm.findClass "com/example/label_lattice/labellattice/NamesIsValidPinLaw" = some m.cls) (e0 : T0.heap = h0) (N0 : Fr n0 locs) :
    ∃ (T' : State) (L' : List Loc), Stand p l e room_1 s m args below meth c T' L' kc ks ∧ Fr n0 L' ∧ Keep h0 T'.heap [] ∧ ∀ target, Steps p.tables e below (T'.setTop (mkF m 192 #[.val (.int p0), .val (.int p1), .val (.int p2), .val (.int p3), .val (.int p4), .val (.int nn), .val (.int wd), .val (.int mk), .val (.int c0), .val (.int c1), .val (.int c2), .val (.int c3), .val (.ref b1), .val (.ref b2), .unset] [(.int (own_valid cs))])) target → Steps p.tables e below (T0.setTop (mkF m 131 #[.val (.int p0), .val (.int p1), .val (.int p2), .val (.int p3), .val (.int p4), .val (.int nn), .val (.int wd), .val (.int mk), .val (.int c0), .val (.int c1), .val (.int c2), .val (.int c3), .val (.ref b1), .val (.ref b2), .unset] [])) target := by
  obtain ⟨hw, O_cs, P_cs, O_as, O_hi, O_lo, O_fm, R_fm⟩ := id hG
  have W := @own_W _ _ hw
  have hB := @hb _ _ hby
  -- pc 139: com/example/label_lattice/labellattice/NamesIsValidPinLaw.letter
  obtain ⟨_, _, ⟨T563, L563, k563, n563⟩, -, X563, ⟨Lc563, hQ563, l563, y563, z563⟩, st563⟩ := Jvm.LawKit.callS X0 hx (y := y21) hown (mvT hZ (W 48 rfl)) (mvT hZ (W 49 rfl)) (mvT hZ (W 50 rfl)) (mvT hZ (W 51 rfl)) (by decide) (backOf (W := 0) (rmlet l Z a0 G1 fm hG [] c0 h0 n0 Z0 X00) hZ (W 51 rfl) (W 50 rfl) (by decide) (by decide)) (g := (mkF m 139 #[.val (.int p0), .val (.int p1), .val (.int p2), .val (.int p3), .val (.int p4), .val (.int nn), .val (.int wd), .val (.int mk), .val (.int c0), .val (.int c1), .val (.int c2), .val (.int c3), .val (.ref b1), .val (.ref b2), .unset] [.int c0])) rfl (by rw [hml]; rfl) (argsL := [.int c0]) (rest := []) (lenOf pd__C_Z rfl) rfl (by show 2 * 0 + _ ≤ _; exact Nat.le_of_eq rfl) (hB at_139) (fun _ _ => ⟨rfl, e0, (hkc : kc + 0 ≤ _), (hks : ks + 0 ≤ _)⟩)
  dsimp only [Pt.U, Pt.locs, Pt.cells, Pt.slots] at X563 l563 y563 z563 st563 hQ563
  subst l563 y563 z563
  obtain ⟨rfl, N563q, eq563⟩ := hQ563
  have N563 := Fr.app N0 N563q
  -- pc 153: com/example/label_lattice/labellattice/NamesIsValidPinLaw.wordChar
  obtain ⟨_, _, ⟨T564, L564, k564, n564⟩, -, X564, ⟨Lc564, hQ564, l564, y564, z564⟩, st564⟩ := Jvm.LawKit.callS X563 hx (y := y23) hown (mvT hZ (W 77 rfl)) (mvT hZ (W 78 rfl)) (mvT hZ (W 50 rfl)) (mvT hZ (W 79 rfl)) (by decide) (backOf (W := 0) (rmwch l Z a0 G1 fm hG [] c1 h0 n0 Z0 X00) hZ (W 79 rfl) (W 50 rfl) (by decide) (by decide)) (g := (mkF m 153 #[.val (.int p0), .val (.int p1), .val (.int p2), .val (.int p3), .val (.int p4), .val (.int nn), .val (.int wd), .val (.int mk), .val (.int c0), .val (.int c1), .val (.int c2), .val (.int c3), .val (.ref b1), .val (.ref b2), .unset] [.int c1])) rfl (by rw [hml]; rfl) (argsL := [.int c1]) (rest := []) (lenOf pd__C_Z rfl) rfl (by show 2 * 0 + _ ≤ _; exact Nat.le_of_eq rfl) (hB at_153) (fun _ _ => ⟨rfl, eq563, (hkc : k563 + 0 ≤ _), (hks : n563 + 0 ≤ _)⟩)
  dsimp only [Pt.U, Pt.locs, Pt.cells, Pt.slots] at X564 l564 y564 z564 st564 hQ564
  subst l564 y564 z564
  obtain ⟨rfl, N564q, eq564⟩ := hQ564
  have N564 := Fr.app N563 N564q
  -- pc 167: com/example/label_lattice/labellattice/NamesIsValidPinLaw.wordChar
  obtain ⟨_, _, ⟨T565, L565, k565, n565⟩, -, X565, ⟨Lc565, hQ565, l565, y565, z565⟩, st565⟩ := Jvm.LawKit.callS X564 hx (y := y23) hown (mvT hZ (W 77 rfl)) (mvT hZ (W 78 rfl)) (mvT hZ (W 50 rfl)) (mvT hZ (W 79 rfl)) (by decide) (backOf (W := 0) (rmwch l Z a0 G1 fm hG [] c2 h0 n0 Z0 X00) hZ (W 79 rfl) (W 50 rfl) (by decide) (by decide)) (g := (mkF m 167 #[.val (.int p0), .val (.int p1), .val (.int p2), .val (.int p3), .val (.int p4), .val (.int nn), .val (.int wd), .val (.int mk), .val (.int c0), .val (.int c1), .val (.int c2), .val (.int c3), .val (.ref b1), .val (.ref b2), .unset] [.int c2])) rfl (by rw [hml]; rfl) (argsL := [.int c2]) (rest := []) (lenOf pd__C_Z rfl) rfl (by show 2 * 0 + _ ≤ _; exact Nat.le_of_eq rfl) (hB at_167) (fun _ _ => ⟨rfl, eq564, (hkc : k564 + 0 ≤ _), (hks : n564 + 0 ≤ _)⟩)
  dsimp only [Pt.U, Pt.locs, Pt.cells, Pt.slots] at X565 l565 y565 z565 st565 hQ565
  subst l565 y565 z565
  obtain ⟨rfl, N565q, eq565⟩ := hQ565
  have N565 := Fr.app N564 N565q
  refine ⟨T565, _, X565, N565, ?_⟩
  rw [eq565]
  refine ⟨(Keep.refl h0 []), fun target kt => ?_⟩
  show Steps _ _ _ (T0.setTop (mkF m 131 #[.val (.int p0), .val (.int p1), .val (.int p2), .val (.int p3), .val (.int p4), .val (.int nn), .val (.int wd), .val (.int mk), .val (.int c0), .val (.int c1), .val (.int c2), .val (.int c3), .val (.ref b1), .val (.ref b2), .unset] [])) _
  refine XS.iload X0.here hx rfl (hB at_131) rfl ?_
  refine XS.iconst X0.here hx rfl (hB at_133) ?_
  refine XS.icmpNo X0.here hx rfl (hB at_134) rfl (flt (hc134 : ¬ (nn < (1 : Int32)))).1 ?_
  refine XS.iload X0.here hx rfl (hB at_137) rfl ?_
  refine st563 _ ?_
  show Steps _ _ _ (T563.setTop (mkF m 142 #[.val (.int p0), .val (.int p1), .val (.int p2), .val (.int p3), .val (.int p4), .val (.int nn), .val (.int wd), .val (.int mk), .val (.int c0), .val (.int c1), .val (.int c2), .val (.int c3), .val (.ref b1), .val (.ref b2), .unset] [(.int (own_letter c0))])) _
  refine XS.ifNo X563.here hx rfl (hB at_142) rfl ((if0 _ _).trans (feq (hc142 : ¬ ((own_letter c0) = (0 : Int32)))).1) ?_
  refine XS.iload X563.here hx rfl (hB at_145) rfl ?_
  refine XS.iconst X563.here hx rfl (hB at_147) ?_
  refine XS.icmpNo X563.here hx rfl (hB at_148) rfl (flt (hc148 : ¬ (nn < (2 : Int32)))).1 ?_
  refine XS.iload X563.here hx rfl (hB at_151) rfl ?_
  refine st564 _ ?_
  show Steps _ _ _ (T564.setTop (mkF m 156 #[.val (.int p0), .val (.int p1), .val (.int p2), .val (.int p3), .val (.int p4), .val (.int nn), .val (.int wd), .val (.int mk), .val (.int c0), .val (.int c1), .val (.int c2), .val (.int c3), .val (.ref b1), .val (.ref b2), .unset] [(.int (own_word c1))])) _
  refine XS.ifNo X564.here hx rfl (hB at_156) rfl ((if0 _ _).trans (feq (hc156 : ¬ ((own_word c1) = (0 : Int32)))).1) ?_
  refine XS.iload X564.here hx rfl (hB at_159) rfl ?_
  refine XS.iconst X564.here hx rfl (hB at_161) ?_
  refine XS.icmpNo X564.here hx rfl (hB at_162) rfl (flt (hc162 : ¬ (nn < (3 : Int32)))).1 ?_
  refine XS.iload X564.here hx rfl (hB at_165) rfl ?_
  refine st565 _ ?_
  show Steps _ _ _ (T565.setTop (mkF m 170 #[.val (.int p0), .val (.int p1), .val (.int p2), .val (.int p3), .val (.int p4), .val (.int nn), .val (.int wd), .val (.int mk), .val (.int c0), .val (.int c1), .val (.int c2), .val (.int c3), .val (.ref b1), .val (.ref b2), .unset] [(.int (own_word c2))])) _
  refine XS.ifNo X565.here hx rfl (hB at_170) rfl ((if0 _ _).trans (feq (hc170 : ¬ ((own_word c2) = (0 : Int32)))).1) ?_
  refine XS.iload X565.here hx rfl (hB at_173) rfl ?_
  refine XS.iconst X565.here hx rfl (hB at_175) ?_
  refine XS.icmpYes X565.here hx rfl (pc0 := 176) (pc' := 187) rfl (hB at_176) rfl (tlt (hc176 : nn < (4 : Int32))).1 (by decide) (by decide) ?_
  refine XS.iconst X565.here hx rfl (hB at_187) ?_
  refine XS.goto X565.here hx rfl (pc0 := 188) (pc' := 192) rfl (hB at_188) (by decide) (by decide) ?_
  rw [hv] at kt
  exact kt
theorem sgexp_o4 {p : Program} {l : Launch} {e : Env} {s : State} {m : MethodId} {args : Array Value} {below : List Frame} {meth : Method} {c : Code} {T0 : State} {locs : List Loc} (Z : State) (a0 : Array Value) (G1 : Int32) (fm : Value) (hG : Glob Z a0 G1 fm) (p0 : Int32) (p1 : Int32) (p2 : Int32) (p3 : Int32) (p4 : Int32) (nn : Int32) (wd : Int32) (mk : Int32) (c0 : Int32) (c1 : Int32) (c2 : Int32) (c3 : Int32) (b1 : Addr) (b2 : Addr) (cs : List Int32) (kc : Nat) (ks : Nat) (h0 : Heap) (n0 : Nat) (Z0 : n0 ≤ h0.size) (X00 : Old Z n0 h0) (hfit : own_fit nn cs c0 c1 c2 c3) (hkc : kc + 0 ≤ room_1.cells) (hks : ks + 0 ≤ room_1.slots) (hv : own_valid cs = (1 : Int32)) (hc134 : ¬ (nn < (1 : Int32))) (hc142 : ¬ ((own_letter c0) = (0 : Int32))) (hc148 : ¬ (nn < (2 : Int32))) (hc156 : ¬ ((own_word c1) = (0 : Int32))) (hc162 : ¬ (nn < (3 : Int32))) (hc170 : ¬ ((own_word c2) = (0 : Int32))) (hc176 : ¬ (nn < (4 : Int32))) (hc184 : ¬ ((own_word c3) = (0 : Int32))) (X0 : Stand p l e room_1 s m args below meth c T0 locs kc ks) (hx : p.tables.exec = Jvm.exec) (hZ : Z.Warmed39 s.vm) (hby : c.code = code) (hml : c.maxLocals = 15) (hown : s.vm.findClass "com/example/label_lattice/labellattice/NamesIsValidPinLaw" = some m.cls) (e0 : T0.heap = h0) (N0 : Fr n0 locs) :
    ∃ (T' : State) (L' : List Loc), Stand p l e room_1 s m args below meth c T' L' kc ks ∧ Fr n0 L' ∧ Keep h0 T'.heap [] ∧ ∀ target, Steps p.tables e below (T'.setTop (mkF m 192 #[.val (.int p0), .val (.int p1), .val (.int p2), .val (.int p3), .val (.int p4), .val (.int nn), .val (.int wd), .val (.int mk), .val (.int c0), .val (.int c1), .val (.int c2), .val (.int c3), .val (.ref b1), .val (.ref b2), .unset] [(.int (own_valid cs))])) target → Steps p.tables e below (T0.setTop (mkF m 131 #[.val (.int p0), .val (.int p1), .val (.int p2), .val (.int p3), .val (.int p4), .val (.int nn), .val (.int wd), .val (.int mk), .val (.int c0), .val (.int c1), .val (.int c2), .val (.int c3), .val (.ref b1), .val (.ref b2), .unset] [])) target := by
  obtain ⟨hw, O_cs, P_cs, O_as, O_hi, O_lo, O_fm, R_fm⟩ := id hG
  have W := @own_W _ _ hw
  have hB := @hb _ _ hby
  -- pc 139: com/example/label_lattice/labellattice/NamesIsValidPinLaw.letter
  obtain ⟨_, _, ⟨T566, L566, k566, n566⟩, -, X566, ⟨Lc566, hQ566, l566, y566, z566⟩, st566⟩ := Jvm.LawKit.callS X0 hx (y := y21) hown (mvT hZ (W 48 rfl)) (mvT hZ (W 49 rfl)) (mvT hZ (W 50 rfl)) (mvT hZ (W 51 rfl)) (by decide) (backOf (W := 0) (rmlet l Z a0 G1 fm hG [] c0 h0 n0 Z0 X00) hZ (W 51 rfl) (W 50 rfl) (by decide) (by decide)) (g := (mkF m 139 #[.val (.int p0), .val (.int p1), .val (.int p2), .val (.int p3), .val (.int p4), .val (.int nn), .val (.int wd), .val (.int mk), .val (.int c0), .val (.int c1), .val (.int c2), .val (.int c3), .val (.ref b1), .val (.ref b2), .unset] [.int c0])) rfl (by rw [hml]; rfl) (argsL := [.int c0]) (rest := []) (lenOf pd__C_Z rfl) rfl (by show 2 * 0 + _ ≤ _; exact Nat.le_of_eq rfl) (hB at_139) (fun _ _ => ⟨rfl, e0, (hkc : kc + 0 ≤ _), (hks : ks + 0 ≤ _)⟩)
  dsimp only [Pt.U, Pt.locs, Pt.cells, Pt.slots] at X566 l566 y566 z566 st566 hQ566
  subst l566 y566 z566
  obtain ⟨rfl, N566q, eq566⟩ := hQ566
  have N566 := Fr.app N0 N566q
  -- pc 153: com/example/label_lattice/labellattice/NamesIsValidPinLaw.wordChar
  obtain ⟨_, _, ⟨T567, L567, k567, n567⟩, -, X567, ⟨Lc567, hQ567, l567, y567, z567⟩, st567⟩ := Jvm.LawKit.callS X566 hx (y := y23) hown (mvT hZ (W 77 rfl)) (mvT hZ (W 78 rfl)) (mvT hZ (W 50 rfl)) (mvT hZ (W 79 rfl)) (by decide) (backOf (W := 0) (rmwch l Z a0 G1 fm hG [] c1 h0 n0 Z0 X00) hZ (W 79 rfl) (W 50 rfl) (by decide) (by decide)) (g := (mkF m 153 #[.val (.int p0), .val (.int p1), .val (.int p2), .val (.int p3), .val (.int p4), .val (.int nn), .val (.int wd), .val (.int mk), .val (.int c0), .val (.int c1), .val (.int c2), .val (.int c3), .val (.ref b1), .val (.ref b2), .unset] [.int c1])) rfl (by rw [hml]; rfl) (argsL := [.int c1]) (rest := []) (lenOf pd__C_Z rfl) rfl (by show 2 * 0 + _ ≤ _; exact Nat.le_of_eq rfl) (hB at_153) (fun _ _ => ⟨rfl, eq566, (hkc : k566 + 0 ≤ _), (hks : n566 + 0 ≤ _)⟩)
  dsimp only [Pt.U, Pt.locs, Pt.cells, Pt.slots] at X567 l567 y567 z567 st567 hQ567
  subst l567 y567 z567
  obtain ⟨rfl, N567q, eq567⟩ := hQ567
  have N567 := Fr.app N566 N567q
  -- pc 167: com/example/label_lattice/labellattice/NamesIsValidPinLaw.wordChar
  obtain ⟨_, _, ⟨T568, L568, k568, n568⟩, -, X568, ⟨Lc568, hQ568, l568, y568, z568⟩, st568⟩ := Jvm.LawKit.callS X567 hx (y := y23) hown (mvT hZ (W 77 rfl)) (mvT hZ (W 78 rfl)) (mvT hZ (W 50 rfl)) (mvT hZ (W 79 rfl)) (by decide) (backOf (W := 0) (rmwch l Z a0 G1 fm hG [] c2 h0 n0 Z0 X00) hZ (W 79 rfl) (W 50 rfl) (by decide) (by decide)) (g := (mkF m 167 #[.val (.int p0), .val (.int p1), .val (.int p2), .val (.int p3), .val (.int p4), .val (.int nn), .val (.int wd), .val (.int mk), .val (.int c0), .val (.int c1), .val (.int c2), .val (.int c3), .val (.ref b1), .val (.ref b2), .unset] [.int c2])) rfl (by rw [hml]; rfl) (argsL := [.int c2]) (rest := []) (lenOf pd__C_Z rfl) rfl (by show 2 * 0 + _ ≤ _; exact Nat.le_of_eq rfl) (hB at_167) (fun _ _ => ⟨rfl, eq567, (hkc : k567 + 0 ≤ _), (hks : n567 + 0 ≤ _)⟩)
  dsimp only [Pt.U, Pt.locs, Pt.cells, Pt.slots] at X568 l568 y568 z568 st568 hQ568
  subst l568 y568 z568
  obtain ⟨rfl, N568q, eq568⟩ := hQ568
  have N568 := Fr.app N567 N568q
  -- pc 181: com/example/label_lattice/labellattice/NamesIsValidPinLaw.wordChar
  obtain ⟨_, _, ⟨T569, L569, k569, n569⟩, -, X569, ⟨Lc569, hQ569, l569, y569, z569⟩, st569⟩ := Jvm.LawKit.callS X568 hx (y := y23) hown (mvT hZ (W 77 rfl)) (mvT hZ (W 78 rfl)) (mvT hZ (W 50 rfl)) (mvT hZ (W 79 rfl)) (by decide) (backOf (W := 0) (rmwch l Z a0 G1 fm hG [] c3 h0 n0 Z0 X00) hZ (W 79 rfl) (W 50 rfl) (by decide) (by decide)) (g := (mkF m 181 #[.val (.int p0), .val (.int p1), .val (.int p2), .val (.int p3), .val (.int p4), .val (.int nn), .val (.int wd), .val (.int mk), .val (.int c0), .val (.int c1), .val (.int c2), .val (.int c3), .val (.ref b1), .val (.ref b2), .unset] [.int c3])) rfl (by rw [hml]; rfl) (argsL := [.int c3]) (rest := []) (lenOf pd__C_Z rfl) rfl (by show 2 * 0 + _ ≤ _; exact Nat.le_of_eq rfl) (hB at_181) (fun _ _ => ⟨rfl, eq568, (hkc : k568 + 0 ≤ _), (hks : n568 + 0 ≤ _)⟩)
  dsimp only [Pt.U, Pt.locs, Pt.cells, Pt.slots] at X569 l569 y569 z569 st569 hQ569
  subst l569 y569 z569
  obtain ⟨rfl, N569q, eq569⟩ := hQ569
  have N569 := Fr.app N568 N569q
  refine ⟨T569, _, X569, N569, ?_⟩
  rw [eq569]
  refine ⟨(Keep.refl h0 []), fun target kt => ?_⟩
  show Steps _ _ _ (T0.setTop (mkF m 131 #[.val (.int p0), .val (.int p1), .val (.int p2), .val (.int p3), .val (.int p4), .val (.int nn), .val (.int wd), .val (.int mk), .val (.int c0), .val (.int c1), .val (.int c2), .val (.int c3), .val (.ref b1), .val (.ref b2), .unset] [])) _
  refine XS.iload X0.here hx rfl (hB at_131) rfl ?_
  refine XS.iconst X0.here hx rfl (hB at_133) ?_
  refine XS.icmpNo X0.here hx rfl (hB at_134) rfl (flt (hc134 : ¬ (nn < (1 : Int32)))).1 ?_
  refine XS.iload X0.here hx rfl (hB at_137) rfl ?_
  refine st566 _ ?_
  show Steps _ _ _ (T566.setTop (mkF m 142 #[.val (.int p0), .val (.int p1), .val (.int p2), .val (.int p3), .val (.int p4), .val (.int nn), .val (.int wd), .val (.int mk), .val (.int c0), .val (.int c1), .val (.int c2), .val (.int c3), .val (.ref b1), .val (.ref b2), .unset] [(.int (own_letter c0))])) _
  refine XS.ifNo X566.here hx rfl (hB at_142) rfl ((if0 _ _).trans (feq (hc142 : ¬ ((own_letter c0) = (0 : Int32)))).1) ?_
  refine XS.iload X566.here hx rfl (hB at_145) rfl ?_
  refine XS.iconst X566.here hx rfl (hB at_147) ?_
  refine XS.icmpNo X566.here hx rfl (hB at_148) rfl (flt (hc148 : ¬ (nn < (2 : Int32)))).1 ?_
  refine XS.iload X566.here hx rfl (hB at_151) rfl ?_
  refine st567 _ ?_
  show Steps _ _ _ (T567.setTop (mkF m 156 #[.val (.int p0), .val (.int p1), .val (.int p2), .val (.int p3), .val (.int p4), .val (.int nn), .val (.int wd), .val (.int mk), .val (.int c0), .val (.int c1), .val (.int c2), .val (.int c3), .val (.ref b1), .val (.ref b2), .unset] [(.int (own_word c1))])) _
  refine XS.ifNo X567.here hx rfl (hB at_156) rfl ((if0 _ _).trans (feq (hc156 : ¬ ((own_word c1) = (0 : Int32)))).1) ?_
  refine XS.iload X567.here hx rfl (hB at_159) rfl ?_
  refine XS.iconst X567.here hx rfl (hB at_161) ?_
  refine XS.icmpNo X567.here hx rfl (hB at_162) rfl (flt (hc162 : ¬ (nn < (3 : Int32)))).1 ?_
  refine XS.iload X567.here hx rfl (hB at_165) rfl ?_
  refine st568 _ ?_
  show Steps _ _ _ (T568.setTop (mkF m 170 #[.val (.int p0), .val (.int p1), .val (.int p2), .val (.int p3), .val (.int p4), .val (.int nn), .val (.int wd), .val (.int mk), .val (.int c0), .val (.int c1), .val (.int c2), .val (.int c3), .val (.ref b1), .val (.ref b2), .unset] [(.int (own_word c2))])) _
  refine XS.ifNo X568.here hx rfl (hB at_170) rfl ((if0 _ _).trans (feq (hc170 : ¬ ((own_word c2) = (0 : Int32)))).1) ?_
  refine XS.iload X568.here hx rfl (hB at_173) rfl ?_
  refine XS.iconst X568.here hx rfl (hB at_175) ?_
  refine XS.icmpNo X568.here hx rfl (hB at_176) rfl (flt (hc176 : ¬ (nn < (4 : Int32)))).1 ?_
  refine XS.iload X568.here hx rfl (hB at_179) rfl ?_
  refine st569 _ ?_
  show Steps _ _ _ (T569.setTop (mkF m 184 #[.val (.int p0), .val (.int p1), .val (.int p2), .val (.int p3), .val (.int p4), .val (.int nn), .val (.int wd), .val (.int mk), .val (.int c0), .val (.int c1), .val (.int c2), .val (.int c3), .val (.ref b1), .val (.ref b2), .unset] [(.int (own_word c3))])) _
  refine XS.ifNo X569.here hx rfl (hB at_184) rfl ((if0 _ _).trans (feq (hc184 : ¬ ((own_word c3) = (0 : Int32)))).1) ?_
  refine XS.iconst X569.here hx rfl (hB at_187) ?_
  refine XS.goto X569.here hx rfl (pc0 := 188) (pc' := 192) rfl (hB at_188) (by decide) (by decide) ?_
  rw [hv] at kt
  exact kt
theorem sgexp {p : Program} {l : Launch} {e : Env} {s : State} {m : MethodId} {args : Array Value} {below : List Frame} {meth : Method} {c : Code} {T0 : State} {locs : List Loc} (Z : State) (a0 : Array Value) (G1 : Int32) (fm : Value) (hG : Glob Z a0 G1 fm) (p0 : Int32) (p1 : Int32) (p2 : Int32) (p3 : Int32) (p4 : Int32) (nn : Int32) (wd : Int32) (mk : Int32) (c0 : Int32) (c1 : Int32) (c2 : Int32) (c3 : Int32) (b1 : Addr) (b2 : Addr) (cs : List Int32) (kc : Nat) (ks : Nat) (h0 : Heap) (n0 : Nat) (Z0 : n0 ≤ h0.size) (X00 : Old Z n0 h0) (hfit : own_fit nn cs c0 c1 c2 c3) (hkc : kc + 0 ≤ room_1.cells) (hks : ks + 0 ≤ room_1.slots) (X0 : Stand p l e room_1 s m args below meth c T0 locs kc ks) (hx : p.tables.exec = Jvm.exec) (hZ : Z.Warmed39 s.vm) (hby : c.code = code) (hml : c.maxLocals = 15) (hown : s.vm.findClass "com/example/label_lattice/labellattice/NamesIsValidPinLaw" = some m.cls) (e0 : T0.heap = h0) (N0 : Fr n0 locs) :
    ∃ (T' : State) (L' : List Loc), Stand p l e room_1 s m args below meth c T' L' kc ks ∧ Fr n0 L' ∧ Keep h0 T'.heap [] ∧ ∀ target, Steps p.tables e below (T'.setTop (mkF m 192 #[.val (.int p0), .val (.int p1), .val (.int p2), .val (.int p3), .val (.int p4), .val (.int nn), .val (.int wd), .val (.int mk), .val (.int c0), .val (.int c1), .val (.int c2), .val (.int c3), .val (.ref b1), .val (.ref b2), .unset] [(.int (own_valid cs))])) target → Steps p.tables e below (T0.setTop (mkF m 131 #[.val (.int p0), .val (.int p1), .val (.int p2), .val (.int p3), .val (.int p4), .val (.int nn), .val (.int wd), .val (.int mk), .val (.int c0), .val (.int c1), .val (.int c2), .val (.int c3), .val (.ref b1), .val (.ref b2), .unset] [])) target := by
  have hfit' := hfit
  rcases hfit' with ⟨rfl, rfl⟩ | ⟨rfl, rfl⟩ | ⟨rfl, rfl⟩ | ⟨rfl, rfl⟩ | ⟨rfl, rfl⟩
  · exact sgexp_z Z a0 G1 fm hG p0 p1 p2 p3 p4 (0) wd mk c0 c1 c2 c3 b1 b2 [] kc ks h0 n0 Z0 X00 hfit hkc hks rfl (by decide) X0 hx hZ hby hml hown e0 N0
  · by_cases q0 : own_letter c0 = 0
    · exact sgexp_l Z a0 G1 fm hG p0 p1 p2 p3 p4 (1) wd mk c0 c1 c2 c3 b1 b2 [c0] kc ks h0 n0 Z0 X00 hfit hkc hks (own_v0 q0) (by decide) q0 X0 hx hZ hby hml hown e0 N0
    exact sgexp_o1 Z a0 G1 fm hG p0 p1 p2 p3 p4 (1) wd mk c0 c1 c2 c3 b1 b2 [c0] kc ks h0 n0 Z0 X00 hfit hkc hks ((own_v1 q0).trans rfl) (by decide) q0 (by decide) (by decide) (by decide) X0 hx hZ hby hml hown e0 N0
  · by_cases q0 : own_letter c0 = 0
    · exact sgexp_l Z a0 G1 fm hG p0 p1 p2 p3 p4 (2) wd mk c0 c1 c2 c3 b1 b2 [c0, c1] kc ks h0 n0 Z0 X00 hfit hkc hks (own_v0 q0) (by decide) q0 X0 hx hZ hby hml hown e0 N0
    by_cases q1 : own_word c1 = 0
    · exact sgexp_f1 Z a0 G1 fm hG p0 p1 p2 p3 p4 (2) wd mk c0 c1 c2 c3 b1 b2 [c0, c1] kc ks h0 n0 Z0 X00 hfit hkc hks ((own_v1 q0).trans (own_w0 q1)) (by decide) q0 (by decide) q1 X0 hx hZ hby hml hown e0 N0
    exact sgexp_o2 Z a0 G1 fm hG p0 p1 p2 p3 p4 (2) wd mk c0 c1 c2 c3 b1 b2 [c0, c1] kc ks h0 n0 Z0 X00 hfit hkc hks ((own_v1 q0).trans ((own_w1 q1).trans rfl)) (by decide) q0 (by decide) q1 (by decide) (by decide) X0 hx hZ hby hml hown e0 N0
  · by_cases q0 : own_letter c0 = 0
    · exact sgexp_l Z a0 G1 fm hG p0 p1 p2 p3 p4 (3) wd mk c0 c1 c2 c3 b1 b2 [c0, c1, c2] kc ks h0 n0 Z0 X00 hfit hkc hks (own_v0 q0) (by decide) q0 X0 hx hZ hby hml hown e0 N0
    by_cases q1 : own_word c1 = 0
    · exact sgexp_f1 Z a0 G1 fm hG p0 p1 p2 p3 p4 (3) wd mk c0 c1 c2 c3 b1 b2 [c0, c1, c2] kc ks h0 n0 Z0 X00 hfit hkc hks ((own_v1 q0).trans (own_w0 q1)) (by decide) q0 (by decide) q1 X0 hx hZ hby hml hown e0 N0
    by_cases q2 : own_word c2 = 0
    · exact sgexp_f2 Z a0 G1 fm hG p0 p1 p2 p3 p4 (3) wd mk c0 c1 c2 c3 b1 b2 [c0, c1, c2] kc ks h0 n0 Z0 X00 hfit hkc hks ((own_v1 q0).trans ((own_w1 q1).trans (own_w0 q2))) (by decide) q0 (by decide) q1 (by decide) q2 X0 hx hZ hby hml hown e0 N0
    exact sgexp_o3 Z a0 G1 fm hG p0 p1 p2 p3 p4 (3) wd mk c0 c1 c2 c3 b1 b2 [c0, c1, c2] kc ks h0 n0 Z0 X00 hfit hkc hks ((own_v1 q0).trans ((own_w1 q1).trans ((own_w1 q2).trans rfl))) (by decide) q0 (by decide) q1 (by decide) q2 (by decide) X0 hx hZ hby hml hown e0 N0
  · by_cases q0 : own_letter c0 = 0
    · exact sgexp_l Z a0 G1 fm hG p0 p1 p2 p3 p4 (4) wd mk c0 c1 c2 c3 b1 b2 [c0, c1, c2, c3] kc ks h0 n0 Z0 X00 hfit hkc hks (own_v0 q0) (by decide) q0 X0 hx hZ hby hml hown e0 N0
    by_cases q1 : own_word c1 = 0
    · exact sgexp_f1 Z a0 G1 fm hG p0 p1 p2 p3 p4 (4) wd mk c0 c1 c2 c3 b1 b2 [c0, c1, c2, c3] kc ks h0 n0 Z0 X00 hfit hkc hks ((own_v1 q0).trans (own_w0 q1)) (by decide) q0 (by decide) q1 X0 hx hZ hby hml hown e0 N0
    by_cases q2 : own_word c2 = 0
    · exact sgexp_f2 Z a0 G1 fm hG p0 p1 p2 p3 p4 (4) wd mk c0 c1 c2 c3 b1 b2 [c0, c1, c2, c3] kc ks h0 n0 Z0 X00 hfit hkc hks ((own_v1 q0).trans ((own_w1 q1).trans (own_w0 q2))) (by decide) q0 (by decide) q1 (by decide) q2 X0 hx hZ hby hml hown e0 N0
    by_cases q3 : own_word c3 = 0
    · exact sgexp_f3 Z a0 G1 fm hG p0 p1 p2 p3 p4 (4) wd mk c0 c1 c2 c3 b1 b2 [c0, c1, c2, c3] kc ks h0 n0 Z0 X00 hfit hkc hks ((own_v1 q0).trans ((own_w1 q1).trans ((own_w1 q2).trans (own_w0 q3)))) (by decide) q0 (by decide) q1 (by decide) q2 (by decide) q3 X0 hx hZ hby hml hown e0 N0
    exact sgexp_o4 Z a0 G1 fm hG p0 p1 p2 p3 p4 (4) wd mk c0 c1 c2 c3 b1 b2 [c0, c1, c2, c3] kc ks h0 n0 Z0 X00 hfit hkc hks ((own_v1 q0).trans ((own_w1 q1).trans ((own_w1 q2).trans ((own_w1 q3).trans rfl)))) (by decide) q0 (by decide) q1 (by decide) q2 (by decide) q3 X0 hx hZ hby hml hown e0 N0
theorem pd___C_V : parseMethodDescriptor "([C)V" = some ⟨[(.array .char)], none⟩ := by decide +kernel
theorem pd__Ljava_lang_String__Z : parseMethodDescriptor "(Ljava/lang/String;)Z" = some ⟨[(.object "java/lang/String")], some .boolean⟩ := by decide +kernel
def Q0 (Z : State) (G1 : Int32) (fm : Value) (p0 : Int32) (p1 : Int32) (p2 : Int32) (p3 : Int32) (p4 : Int32) (h0 : Heap) (n0 : Nat) (v : Option Value) (h : Heap) (L : List Loc) : Prop := v = some (.int 1) ∧ Fr n0 L ∧ Keep h0 h []
theorem ef_code_IIIII (m : MethodId) (x0 : Int32) (x1 : Int32) (x2 : Int32) (x3 : Int32) (x4 : Int32) : entryFrame m #[.int x0, .int x1, .int x2, .int x3, .int x4] maxLocals = mkF m 0 #[.val (.int x0), .val (.int x1), .val (.int x2), .val (.int x3), .val (.int x4), .unset, .unset, .unset, .unset, .unset, .unset, .unset, .unset, .unset, .unset] [] := by first | (simp [entryFrame, mkF, argsToLocals, Value.category, maxLocals]; done) | rfl
theorem rm0_0 (l : Launch) (Z : State) (a0 : Array Value) (G1 : Int32) (fm : Value) (hG : Glob Z a0 G1 fm) (ws : List Jvm.Cond) (p0 : Int32) (p1 : Int32) (p2 : Int32) (p3 : Int32) (p4 : Int32) (h0 : Heap) (n0 : Nat) (Z0 : n0 ≤ h0.size) (X00 : Old Z n0 h0) (hn : ((p0 &&& (2147483647 : Int32)) % (5 : Int32)) = (0 : Int32)) :
    MetFree l x (head1 (Jvm.Cond.code x code maxLocals ret :: ws) room_1) (fun a U => a = #[.int p0, .int p1, .int p2, .int p3, .int p4] ∧ Z.Warmed39 U.vm ∧ U.heap = h0 ∧ CHv Z own_EL U.vm h0) (fun _ _ _ _ _ => True) (fun _ U o U' => ∃ v L, o = .returned v ∧ Q0 Z G1 fm p0 p1 p2 p3 p4 h0 n0 v U'.heap L ∧ CHr Z own_EL U.vm U.heap U'.vm U'.heap ∧ ReturnedEndW U o U' L room_1.cells room_1.slots) := by
  obtain ⟨hw, O_cs, P_cs, O_as, O_hi, O_lo, O_fm, R_fm⟩ := id hG
  have W := @own_W _ _ hw
  refine MetFree.of_bodySF (plainFor_of_name pn_com_example_label_lattice_labellattice_NamesIsValidPinLaw) hisR ?_
  intro p e s m args below meth c s₁ Bd hml0 hP hK
  obtain ⟨rfl, hZ, hh, hCH⟩ := hP
  have hx := Bd.exec
  have hby := Bd.bytes
  have hB := @hb _ _ hby
  have hml : c.maxLocals = 15 := hml0
  have hown : s.vm.findClass "com/example/label_lattice/labellattice/NamesIsValidPinLaw" = some m.cls := findClass_of_methodNamed Bd.named
  have hnm := (name_of_methodNamed Bd.named Bd.method).1
  have X0 : Stand p l e room_1 (s.setVm s.vm) m #[.int p0, .int p1, .int p2, .int p3, .int p4] below meth c s₁ [] 0 0 := Stand.of_body Bd
  have e0 : s₁.heap = h0 := by rw [← hh, Bd.state]; rfl
  have hS0 : s.Since s.vm h0.size := (State.WarmedH.refl s).since _
  have hk0 : h0.size ≤ h0.size := Nat.le_refl _
  have R0 : CHr Z own_EL s.vm h0 s.vm h0 := CHr.refl hCH
  have hEL := own_ew hw
  have N0 := Fr.nil n0
  have pre0 : ∀ t, Steps p.tables e below (s₁.setTop (mkF m 0 #[.val (.int p0), .val (.int p1), .val (.int p2), .val (.int p3), .val (.int p4), .unset, .unset, .unset, .unset, .unset, .unset, .unset, .unset, .unset, .unset] [])) t → Steps p.tables e below (s₁.setTop (entryFrame m #[.int p0, .int p1, .int p2, .int p3, .int p4] maxLocals)) t := fun t kk_ => castTop (ef_code_IIIII m p0 p1 p2 p3 p4) kk_
  obtain ⟨wd, hwd⟩ : ∃ z : Int32, z = (if (((p0.toUInt32 >>> ((8 : Int32) &&& 31).toUInt32).toInt32) &&& (1 : Int32)) = (0 : Int32) then (0 : Int32) else (1 : Int32)) := ⟨_, rfl⟩
  obtain ⟨mk, hmk⟩ : ∃ z : Int32, z = (if wd = (0 : Int32) then (127 : Int32) else (65535 : Int32)) := ⟨_, rfl⟩
  obtain ⟨c0, hq0⟩ : ∃ z : Int32, z = ((p1 &&& mk).toUInt32.toUInt16.toUInt32.toInt32) := ⟨_, rfl⟩
  have hu0 : own_u16 c0 := by rw [hq0]; exact own_i2c _
  obtain ⟨c1, hq1⟩ : ∃ z : Int32, z = ((p2 &&& mk).toUInt32.toUInt16.toUInt32.toInt32) := ⟨_, rfl⟩
  have hu1 : own_u16 c1 := by rw [hq1]; exact own_i2c _
  obtain ⟨c2, hq2⟩ : ∃ z : Int32, z = ((p3 &&& mk).toUInt32.toUInt16.toUInt32.toInt32) := ⟨_, rfl⟩
  have hu2 : own_u16 c2 := by rw [hq2]; exact own_i2c _
  obtain ⟨c3, hq3⟩ : ∃ z : Int32, z = ((p4 &&& mk).toUInt32.toUInt16.toUInt32.toInt32) := ⟨_, rfl⟩
  have hu3 : own_u16 c3 := by rw [hq3]; exact own_i2c _
  obtain ⟨T570, h570, k570, X570, e570, E570, A570, st570⟩ := newP X0 hx hZ (W 1 rfl) e0 (g := (mkF m 69 #[.val (.int p0), .val (.int p1), .val (.int p2), .val (.int p3), .val (.int p4), .val (.int 0), .val (.int wd), .val (.int mk), .val (.int c0), .val (.int c1), .val (.int c2), .val (.int c3), .unset, .unset, .unset] [.int 0])) rfl (hB at_69) rfl (by decide) (cap := 0) (by decide) (by decide) (by decide) (by decide)
  obtain ⟨b570, g570⟩ : ∃ z, z = h0.size := ⟨_, rfl⟩
  rw [← g570] at A570 st570
  have Z571 : n0 ≤ h570.size := Nat.le_trans Z0 E570.1
  have K0_571 : Keep h0 h570 [] := (Keep.refl h0 []).ext E570
  have O571 : Old Z n0 h570 := X00.ext E570
  have R571 : CHr Z own_EL s.vm h0 s.vm h570 := R0.trans (CHr.ext E570 R0.1)
  have hk571 : h0.size ≤ h570.size := Nat.le_trans hk0 E570.1
  have lo_b570 : h0.size ≤ b570 := Nat.le_of_eq g570.symm
  have g_b570 : n0 ≤ b570 := Nat.le_trans Z0 lo_b570
  have l0_b570 : h0.size ≤ b570 := Nat.le_trans (Keep.refl h0 []).1 lo_b570
  have V_b570 : Arv Z h570 b570 k570 .char (0 : Int32) [] (.int 0) := (Arv.new A570 (by decide)).pad (pad_rep [] (.int 0) 0)
  obtain ⟨T572, h572, X572, e572, E572, A572, D572, -, st572⟩ := newO X570 hx hZ hown (W 2 rfl) (W 3 rfl) (W 4 rfl) e570 (g := (mkF m 120 #[.val (.int p0), .val (.int p1), .val (.int p2), .val (.int p3), .val (.int p4), .val (.int 0), .val (.int wd), .val (.int mk), .val (.int c0), .val (.int c1), .val (.int c2), .val (.int c3), .val (.ref b570), .unset, .unset] [])) rfl (hB at_120) (by decide) (by decide)
  obtain ⟨b572, g572⟩ : ∃ z, z = h570.size := ⟨_, rfl⟩
  rw [← g572] at A572 D572 st572
  have Z573 : n0 ≤ h572.size := Nat.le_trans Z571 E572.1
  have K0_573 : Keep h0 h572 [] := K0_571.ext E572
  have O573 : Old Z n0 h572 := O571.ext E572
  have R573 : CHr Z own_EL s.vm h0 s.vm h572 := R571.trans (CHr.ext E572 R571.1)
  have hk573 : h0.size ≤ h572.size := Nat.le_trans hk571 E572.1
  have lo_b572 : h570.size ≤ b572 := Nat.le_of_eq g572.symm
  have g_b572 : n0 ≤ b572 := Nat.le_trans Z571 lo_b572
  have l0_b572 : h0.size ≤ b572 := Nat.le_trans K0_571.1 lo_b572
  have F_value_b572 : Fld Z h572 b572 "java/lang/String" "value" "[B" .null := D572 (Or.inr (W 17 rfl)) (ty := (.array .byte)) (by decide)
  have F_coder_b572 : Fld Z h572 b572 "java/lang/String" "coder" "B" (.int 0) := D572 (Or.inr (W 18 rfl)) (ty := .byte) (by decide)
  have f575 := (V_b570.ext E572)
  -- pc 126: java/lang/String.<init>
  obtain ⟨_, _, ⟨T574, L574, k574, n574⟩, -, X574, hS574, hG574, ⟨Lc574, hQ574, l574, y574, z574, hC574⟩, st574⟩ := X572.specialBackS hx (y := y19) rfl hown (mvT hZ (W 5 rfl)) (mvT hZ (W 6 rfl)) (mvT hZ (W 7 rfl)) (by decide) (backOfSH (s := s) (W := 1) (rmsz l Z a0 G1 fm hG [] b572 b570 k570 h572 n0 Z573 O573 A572 g_b572 F_value_b572 F_coder_b572 f575) hZ (W 7 rfl) (W 4 rfl) (by decide) (by decide) hEL R573.1) (g := (mkF m 126 #[.val (.int p0), .val (.int p1), .val (.int p2), .val (.int p3), .val (.int p4), .val (.int 0), .val (.int wd), .val (.int mk), .val (.int c0), .val (.int c1), .val (.int c2), .val (.int c3), .val (.ref b570), .unset, .unset] [.ref b570, .ref b572, .ref b572])) rfl (by rw [hml]; rfl) (Steps.refl _) (a := b572) (argsL := [.ref b570]) (rest := [.ref b572]) (lenOf pd___C_V rfl) rfl (by show 2 * 0 + _ ≤ _; exact Nat.le_of_eq rfl) (hB at_126) (fun _ _ => ⟨rfl, e572, (by decide : 2 + 4 ≤ _), (by decide : 4 + 8 ≤ _)⟩)
  dsimp only [Pt.U, Pt.locs, Pt.cells, Pt.slots] at X574 l574 y574 z574 st574 hQ574 hS574 hG574 hC574
  subst l574 y574 z574
  have hZ574 : Z.Warmed39 T574.vm := State.Warmed39.trans (t := s.setVm s.vm) hZ hS574.1
  have hw574 : T574.vm.findClass "com/example/label_lattice/labellattice/NamesIsValidPinLaw" = some m.cls := by rw [hS574.1.alike.findClass]; exact hown
  have hSn574 : s.Since T574.vm T574.heap.size := hS0.trans hS574 (Nat.le_trans hk573 (by have q := hG574; rw [e572] at q; exact q))
  have X574 : Stand p l e _ (s.setVm T574.vm) m _ below meth c T574 _ _ _ := X574
  obtain ⟨t_574, kb_574, rfl, N574q, K574, f574_0, f574_1, f574_2, f574_3⟩ := hQ574
  have N574 := Fr.app N0 N574q
  have Z576 : n0 ≤ T574.heap.size := Nat.le_trans Z573 K574.1
  have K0_576 : Keep h0 T574.heap [] := K0_573.trans K574 (allS (Or.inr l0_b572) all0)
  have O576 : Old Z n0 T574.heap := O573.keep K574 (allS g_b572 all0)
  have hkw574 : T574.heap.size ≤ T574.heap.size := Nat.le_refl _
  have Rb574 : CHr Z own_EL s.vm h0 T574.vm T574.heap := R573.trans hC574
  obtain ⟨T577, L577, X577, N577, K577, st577⟩ := sgexp Z a0 G1 fm hG p0 p1 p2 p3 p4 (0 : Int32) wd mk c0 c1 c2 c3 b570 b572 ([] : List Int32) 6 12 T574.heap n0 Z576 O576 (Or.inl ⟨rfl, rfl⟩) (by decide) (by decide) X574 hx hZ574 hby hml hw574 rfl N574
  have Z578 : n0 ≤ T577.heap.size := Nat.le_trans Z576 K577.1
  have K0_578 : Keep h0 T577.heap [] := K0_576.trans K577 all0
  have O578 : Old Z n0 T577.heap := O576.keep K577 all0
  have R578 : CHr Z own_EL s.vm h0 T574.vm T577.heap := Rb574.trans (CHr.keep K577 sf0 Rb574.1)
  have hk578 : T574.heap.size ≤ T577.heap.size := Nat.le_trans hkw574 K577.1
  have f580 := (f574_0.keep K577)
  have f581 := (f574_1.keep K577 nin0)
  have f582 := (f574_2.keep K577 nin0)
  have f583 := (f574_3.keep K577 nin0)
  -- pc 196: com/example/label_lattice/labellattice/Names.isValid
  obtain ⟨_, _, ⟨T579, L579, k579, n579⟩, -, X579, ⟨Lc579, hQ579, l579, y579, z579⟩, st579⟩ := Jvm.LawKit.callS X577 hx (y := y24) hw574 (mvT hZ574 (W 23 rfl)) (mvT hZ574 (W 24 rfl)) (mvT hZ574 (W 25 rfl)) (mvT hZ574 (W 26 rfl)) (by decide) (backOf (W := 0) (rmisv l Z a0 G1 fm hG [] b572 t_574 kb_574 0 (0 : Int32) ([]) ([] : List Int32) (0 : Int32) T577.heap n0 Z578 O578 f580 f581 f582 f583 (Or.inl ⟨rfl, rfl, rfl, nofun⟩) (own_ble rfl) nofun rfl) hZ574 (W 26 rfl) (W 25 rfl) (by decide) (by decide)) (g := (mkF m 196 #[.val (.int p0), .val (.int p1), .val (.int p2), .val (.int p3), .val (.int p4), .val (.int 0), .val (.int wd), .val (.int mk), .val (.int c0), .val (.int c1), .val (.int c2), .val (.int c3), .val (.ref b570), .val (.ref b572), .val (.int (own_valid ([] : List Int32)))] [.ref b572])) rfl (by rw [hml]; rfl) (argsL := [.ref b572]) (rest := []) (lenOf pd__Ljava_lang_String__Z rfl) rfl (by show 2 * 0 + _ ≤ _; exact Nat.le_of_eq rfl) (hB at_196) (fun _ _ => ⟨rfl, rfl, (by decide : 6 + 0 ≤ _), (by decide : 12 + 0 ≤ _)⟩)
  dsimp only [Pt.U, Pt.locs, Pt.cells, Pt.slots] at X579 l579 y579 z579 st579 hQ579
  subst l579 y579 z579
  obtain ⟨rfl, N579q, K579⟩ := hQ579
  have N579 := Fr.app N577 N579q
  have Z584 : n0 ≤ T579.heap.size := Nat.le_trans Z578 K579.1
  have K0_584 : Keep h0 T579.heap [] := K0_578.trans K579 all0
  have O584 : Old Z n0 T579.heap := O578.keep K579 all0
  have R584 : CHr Z own_EL s.vm h0 T574.vm T579.heap := R578.trans (CHr.keep K579 sf0 R578.1)
  have hk584 : T574.heap.size ≤ T579.heap.size := Nat.le_trans hk578 K579.1
  obtain ⟨fs, hr, hrun, hended, hend⟩ := Jvm.Stand.leaveW (v := some (.int 1)) X579 hSn574 hk584 (fun h => by rw [Bd.returns] at h; cases h)
  have hFin := R584.trans (CHv.at X579 hZ574 hEL R584.1)
  refine ⟨_, _, pre0 _ ?_, hrun, hended, _, _, rfl, ?_, ?_, own_mono hend (own_ble rfl) (own_ble rfl)⟩
  · show Steps _ _ _ (s₁.setTop (mkF m 0 #[.val (.int p0), .val (.int p1), .val (.int p2), .val (.int p3), .val (.int p4), .unset, .unset, .unset, .unset, .unset, .unset, .unset, .unset, .unset, .unset] [])) _
    refine XS.iloadN X0.here hx rfl (hB at_0) rfl ?_
    refine X0.ldcInt hx hown (mvT hZ (W 0 rfl)) (g := (mkF m 1 #[.val (.int p0), .val (.int p1), .val (.int p2), .val (.int p3), .val (.int p4), .unset, .unset, .unset, .unset, .unset, .unset, .unset, .unset, .unset, .unset] [.int p0])) rfl (hB at_1) _ ?_
    refine XS.iand X0.here hx rfl (hB at_3) rfl ?_
    refine XS.iconst X0.here hx rfl (hB at_4) ?_
    refine iremM (g := (mkF m 5 #[.val (.int p0), .val (.int p1), .val (.int p2), .val (.int p3), .val (.int p4), .unset, .unset, .unset, .unset, .unset, .unset, .unset, .unset, .unset, .unset] [.int 5, (.int (p0 &&& (2147483647 : Int32)))])) X0 hx rfl (hB at_5) rfl (by decide) ?_
    show Steps _ _ _ (s₁.setTop (mkF m 6 #[.val (.int p0), .val (.int p1), .val (.int p2), .val (.int p3), .val (.int p4), .unset, .unset, .unset, .unset, .unset, .unset, .unset, .unset, .unset, .unset] [(.int ((p0 &&& (2147483647 : Int32)) % (5 : Int32)))])) _
    rw [hn]
    show Steps _ _ _ (s₁.setTop (mkF m 6 #[.val (.int p0), .val (.int p1), .val (.int p2), .val (.int p3), .val (.int p4), .unset, .unset, .unset, .unset, .unset, .unset, .unset, .unset, .unset, .unset] [.int 0])) _
    refine XS.istore X0.here hx rfl (hB at_6) rfl (l' := #[.val (.int p0), .val (.int p1), .val (.int p2), .val (.int p3), .val (.int p4), .val (.int 0), .unset, .unset, .unset, .unset, .unset, .unset, .unset, .unset, .unset]) rfl ?_
    refine XS.iloadN X0.here hx rfl (hB at_8) rfl ?_
    refine XS.bipush X0.here hx rfl (hB at_9) ?_
    refine XS.iushr X0.here hx rfl (hB at_11) rfl ?_
    refine XS.iconst X0.here hx rfl (hB at_12) ?_
    refine XS.iand X0.here hx rfl (hB at_13) rfl ?_
    show Steps _ _ _ (s₁.setTop (mkF m 14 #[.val (.int p0), .val (.int p1), .val (.int p2), .val (.int p3), .val (.int p4), .val (.int 0), .unset, .unset, .unset, .unset, .unset, .unset, .unset, .unset, .unset] [(.int (((p0.toUInt32 >>> ((8 : Int32) &&& 31).toUInt32).toInt32) &&& (1 : Int32)))])) _
    refine Steps.trans (?_ : Steps p.tables e below _ (s₁.setTop (mkF m 22 #[.val (.int p0), .val (.int p1), .val (.int p2), .val (.int p3), .val (.int p4), .val (.int 0), .unset, .unset, .unset, .unset, .unset, .unset, .unset, .unset, .unset] [.int wd]))) ?_
    · by_cases hj : (((p0.toUInt32 >>> ((8 : Int32) &&& 31).toUInt32).toInt32) &&& (1 : Int32)) = (0 : Int32)
      · show Steps _ _ _ (s₁.setTop (mkF m 14 #[.val (.int p0), .val (.int p1), .val (.int p2), .val (.int p3), .val (.int p4), .val (.int 0), .unset, .unset, .unset, .unset, .unset, .unset, .unset, .unset, .unset] [(.int (((p0.toUInt32 >>> ((8 : Int32) &&& 31).toUInt32).toInt32) &&& (1 : Int32)))])) _
        refine XS.ifYes X0.here hx rfl (pc0 := 14) (pc' := 21) rfl (hB at_14) rfl ((if0 _ _).trans (teq (hj : (((p0.toUInt32 >>> ((8 : Int32) &&& 31).toUInt32).toInt32) &&& (1 : Int32)) = (0 : Int32))).1) (by decide) (by decide) ?_
        refine XS.iconst X0.here hx rfl (hB at_21) ?_
        rw [hwd, if_pos hj]
        exact Steps.refl _
      · show Steps _ _ _ (s₁.setTop (mkF m 14 #[.val (.int p0), .val (.int p1), .val (.int p2), .val (.int p3), .val (.int p4), .val (.int 0), .unset, .unset, .unset, .unset, .unset, .unset, .unset, .unset, .unset] [(.int (((p0.toUInt32 >>> ((8 : Int32) &&& 31).toUInt32).toInt32) &&& (1 : Int32)))])) _
        refine XS.ifNo X0.here hx rfl (hB at_14) rfl ((if0 _ _).trans (feq (hj : ¬ ((((p0.toUInt32 >>> ((8 : Int32) &&& 31).toUInt32).toInt32) &&& (1 : Int32)) = (0 : Int32)))).1) ?_
        refine XS.iconst X0.here hx rfl (hB at_17) ?_
        refine XS.goto X0.here hx rfl (pc0 := 18) (pc' := 22) rfl (hB at_18) (by decide) (by decide) ?_
        rw [hwd, if_neg hj]
        exact Steps.refl _
    show Steps _ _ _ (s₁.setTop (mkF m 22 #[.val (.int p0), .val (.int p1), .val (.int p2), .val (.int p3), .val (.int p4), .val (.int 0), .unset, .unset, .unset, .unset, .unset, .unset, .unset, .unset, .unset] [.int wd])) _
    refine XS.istore X0.here hx rfl (hB at_22) rfl (l' := #[.val (.int p0), .val (.int p1), .val (.int p2), .val (.int p3), .val (.int p4), .val (.int 0), .val (.int wd), .unset, .unset, .unset, .unset, .unset, .unset, .unset, .unset]) rfl ?_
    refine XS.iload X0.here hx rfl (hB at_24) rfl ?_
    show Steps _ _ _ (s₁.setTop (mkF m 26 #[.val (.int p0), .val (.int p1), .val (.int p2), .val (.int p3), .val (.int p4), .val (.int 0), .val (.int wd), .unset, .unset, .unset, .unset, .unset, .unset, .unset, .unset] [.int wd])) _
    refine Steps.trans (?_ : Steps p.tables e below _ (s₁.setTop (mkF m 36 #[.val (.int p0), .val (.int p1), .val (.int p2), .val (.int p3), .val (.int p4), .val (.int 0), .val (.int wd), .unset, .unset, .unset, .unset, .unset, .unset, .unset, .unset] [.int mk]))) ?_
    · by_cases hj : wd = (0 : Int32)
      · show Steps _ _ _ (s₁.setTop (mkF m 26 #[.val (.int p0), .val (.int p1), .val (.int p2), .val (.int p3), .val (.int p4), .val (.int 0), .val (.int wd), .unset, .unset, .unset, .unset, .unset, .unset, .unset, .unset] [.int wd])) _
        refine XS.ifYes X0.here hx rfl (pc0 := 26) (pc' := 34) rfl (hB at_26) rfl ((if0 _ _).trans (teq (hj : wd = (0 : Int32))).1) (by decide) (by decide) ?_
        refine XS.bipush X0.here hx rfl (hB at_34) ?_
        rw [hmk, if_pos hj]
        exact Steps.refl _
      · show Steps _ _ _ (s₁.setTop (mkF m 26 #[.val (.int p0), .val (.int p1), .val (.int p2), .val (.int p3), .val (.int p4), .val (.int 0), .val (.int wd), .unset, .unset, .unset, .unset, .unset, .unset, .unset, .unset] [.int wd])) _
        refine XS.ifNo X0.here hx rfl (hB at_26) rfl ((if0 _ _).trans (feq (hj : ¬ (wd = (0 : Int32)))).1) ?_
        refine X0.ldcInt hx hown (mvT hZ (W 83 rfl)) (g := (mkF m 29 #[.val (.int p0), .val (.int p1), .val (.int p2), .val (.int p3), .val (.int p4), .val (.int 0), .val (.int wd), .unset, .unset, .unset, .unset, .unset, .unset, .unset, .unset] [])) rfl (hB at_29) _ ?_
        refine XS.goto X0.here hx rfl (pc0 := 31) (pc' := 36) rfl (hB at_31) (by decide) (by decide) ?_
        rw [hmk, if_neg hj]
        exact Steps.refl _
    show Steps _ _ _ (s₁.setTop (mkF m 36 #[.val (.int p0), .val (.int p1), .val (.int p2), .val (.int p3), .val (.int p4), .val (.int 0), .val (.int wd), .unset, .unset, .unset, .unset, .unset, .unset, .unset, .unset] [.int mk])) _
    refine XS.istore X0.here hx rfl (hB at_36) rfl (l' := #[.val (.int p0), .val (.int p1), .val (.int p2), .val (.int p3), .val (.int p4), .val (.int 0), .val (.int wd), .val (.int mk), .unset, .unset, .unset, .unset, .unset, .unset, .unset]) rfl ?_
    refine XS.iloadN X0.here hx rfl (hB at_38) rfl ?_
    refine XS.iload X0.here hx rfl (hB at_39) rfl ?_
    refine XS.iand X0.here hx rfl (hB at_41) rfl ?_
    refine XS.i2c X0.here hx rfl (hB at_42) rfl ?_
    show Steps _ _ _ (s₁.setTop (mkF m 43 #[.val (.int p0), .val (.int p1), .val (.int p2), .val (.int p3), .val (.int p4), .val (.int 0), .val (.int wd), .val (.int mk), .unset, .unset, .unset, .unset, .unset, .unset, .unset] [(.int ((p1 &&& mk).toUInt32.toUInt16.toUInt32.toInt32))])) _
    rw [← hq0]
    show Steps _ _ _ (s₁.setTop (mkF m 43 #[.val (.int p0), .val (.int p1), .val (.int p2), .val (.int p3), .val (.int p4), .val (.int 0), .val (.int wd), .val (.int mk), .unset, .unset, .unset, .unset, .unset, .unset, .unset] [.int c0])) _
    refine XS.istore X0.here hx rfl (hB at_43) rfl (l' := #[.val (.int p0), .val (.int p1), .val (.int p2), .val (.int p3), .val (.int p4), .val (.int 0), .val (.int wd), .val (.int mk), .val (.int c0), .unset, .unset, .unset, .unset, .unset, .unset]) rfl ?_
    refine XS.iloadN X0.here hx rfl (hB at_45) rfl ?_
    refine XS.iload X0.here hx rfl (hB at_46) rfl ?_
    refine XS.iand X0.here hx rfl (hB at_48) rfl ?_
    refine XS.i2c X0.here hx rfl (hB at_49) rfl ?_
    show Steps _ _ _ (s₁.setTop (mkF m 50 #[.val (.int p0), .val (.int p1), .val (.int p2), .val (.int p3), .val (.int p4), .val (.int 0), .val (.int wd), .val (.int mk), .val (.int c0), .unset, .unset, .unset, .unset, .unset, .unset] [(.int ((p2 &&& mk).toUInt32.toUInt16.toUInt32.toInt32))])) _
    rw [← hq1]
    show Steps _ _ _ (s₁.setTop (mkF m 50 #[.val (.int p0), .val (.int p1), .val (.int p2), .val (.int p3), .val (.int p4), .val (.int 0), .val (.int wd), .val (.int mk), .val (.int c0), .unset, .unset, .unset, .unset, .unset, .unset] [.int c1])) _
    refine XS.istore X0.here hx rfl (hB at_50) rfl (l' := #[.val (.int p0), .val (.int p1), .val (.int p2), .val (.int p3), .val (.int p4), .val (.int 0), .val (.int wd), .val (.int mk), .val (.int c0), .val (.int c1), .unset, .unset, .unset, .unset, .unset]) rfl ?_
    refine XS.iloadN X0.here hx rfl (hB at_52) rfl ?_
    refine XS.iload X0.here hx rfl (hB at_53) rfl ?_
    refine XS.iand X0.here hx rfl (hB at_55) rfl ?_
    refine XS.i2c X0.here hx rfl (hB at_56) rfl ?_
    show Steps _ _ _ (s₁.setTop (mkF m 57 #[.val (.int p0), .val (.int p1), .val (.int p2), .val (.int p3), .val (.int p4), .val (.int 0), .val (.int wd), .val (.int mk), .val (.int c0), .val (.int c1), .unset, .unset, .unset, .unset, .unset] [(.int ((p3 &&& mk).toUInt32.toUInt16.toUInt32.toInt32))])) _
    rw [← hq2]
    show Steps _ _ _ (s₁.setTop (mkF m 57 #[.val (.int p0), .val (.int p1), .val (.int p2), .val (.int p3), .val (.int p4), .val (.int 0), .val (.int wd), .val (.int mk), .val (.int c0), .val (.int c1), .unset, .unset, .unset, .unset, .unset] [.int c2])) _
    refine XS.istore X0.here hx rfl (hB at_57) rfl (l' := #[.val (.int p0), .val (.int p1), .val (.int p2), .val (.int p3), .val (.int p4), .val (.int 0), .val (.int wd), .val (.int mk), .val (.int c0), .val (.int c1), .val (.int c2), .unset, .unset, .unset, .unset]) rfl ?_
    refine XS.iload X0.here hx rfl (hB at_59) rfl ?_
    refine XS.iload X0.here hx rfl (hB at_61) rfl ?_
    refine XS.iand X0.here hx rfl (hB at_63) rfl ?_
    refine XS.i2c X0.here hx rfl (hB at_64) rfl ?_
    show Steps _ _ _ (s₁.setTop (mkF m 65 #[.val (.int p0), .val (.int p1), .val (.int p2), .val (.int p3), .val (.int p4), .val (.int 0), .val (.int wd), .val (.int mk), .val (.int c0), .val (.int c1), .val (.int c2), .unset, .unset, .unset, .unset] [(.int ((p4 &&& mk).toUInt32.toUInt16.toUInt32.toInt32))])) _
    rw [← hq3]
    show Steps _ _ _ (s₁.setTop (mkF m 65 #[.val (.int p0), .val (.int p1), .val (.int p2), .val (.int p3), .val (.int p4), .val (.int 0), .val (.int wd), .val (.int mk), .val (.int c0), .val (.int c1), .val (.int c2), .unset, .unset, .unset, .unset] [.int c3])) _
    refine XS.istore X0.here hx rfl (hB at_65) rfl (l' := #[.val (.int p0), .val (.int p1), .val (.int p2), .val (.int p3), .val (.int p4), .val (.int 0), .val (.int wd), .val (.int mk), .val (.int c0), .val (.int c1), .val (.int c2), .val (.int c3), .unset, .unset, .unset]) rfl ?_
    refine XS.iload X0.here hx rfl (hB at_67) rfl ?_
    refine st570 _ ?_
    show Steps _ _ _ (T570.setTop (mkF m 71 #[.val (.int p0), .val (.int p1), .val (.int p2), .val (.int p3), .val (.int p4), .val (.int 0), .val (.int wd), .val (.int mk), .val (.int c0), .val (.int c1), .val (.int c2), .val (.int c3), .unset, .unset, .unset] [.ref b570])) _
    refine XS.astore X570.here hx rfl (hB at_71) rfl rfl (l' := #[.val (.int p0), .val (.int p1), .val (.int p2), .val (.int p3), .val (.int p4), .val (.int 0), .val (.int wd), .val (.int mk), .val (.int c0), .val (.int c1), .val (.int c2), .val (.int c3), .val (.ref b570), .unset, .unset]) rfl ?_
    refine XS.iload X570.here hx rfl (hB at_73) rfl ?_
    refine XS.ifYes X570.here hx rfl (pc0 := 75) (pc' := 84) rfl (hB at_75) rfl ((if0 _ _).trans (flt (by decide : ¬ ((0 : Int32) < (0 : Int32)))).2.2.2) (by decide) (by decide) ?_
    refine XS.iload X570.here hx rfl (hB at_84) rfl ?_
    refine XS.iconst X570.here hx rfl (hB at_86) ?_
    refine XS.icmpYes X570.here hx rfl (pc0 := 87) (pc' := 96) rfl (hB at_87) rfl (flt (by decide : ¬ ((1 : Int32) < (0 : Int32)))).2.2.2 (by decide) (by decide) ?_
    refine XS.iload X570.here hx rfl (hB at_96) rfl ?_
    refine XS.iconst X570.here hx rfl (hB at_98) ?_
    refine XS.icmpYes X570.here hx rfl (pc0 := 99) (pc' := 108) rfl (hB at_99) rfl (flt (by decide : ¬ ((2 : Int32) < (0 : Int32)))).2.2.2 (by decide) (by decide) ?_
    refine XS.iload X570.here hx rfl (hB at_108) rfl ?_
    refine XS.iconst X570.here hx rfl (hB at_110) ?_
    refine XS.icmpYes X570.here hx rfl (pc0 := 111) (pc' := 120) rfl (hB at_111) rfl (flt (by decide : ¬ ((3 : Int32) < (0 : Int32)))).2.2.2 (by decide) (by decide) ?_
    refine st572 _ ?_
    show Steps _ _ _ (T572.setTop (mkF m 123 #[.val (.int p0), .val (.int p1), .val (.int p2), .val (.int p3), .val (.int p4), .val (.int 0), .val (.int wd), .val (.int mk), .val (.int c0), .val (.int c1), .val (.int c2), .val (.int c3), .val (.ref b570), .unset, .unset] [.ref b572])) _
    refine XS.dup X572.here hx rfl (hB at_123) rfl rfl ?_
    refine XS.aload X572.here hx rfl (hB at_124) rfl rfl ?_
    refine st574.trans ?_
    show Steps _ _ _ (T574.setTop (mkF m 129 #[.val (.int p0), .val (.int p1), .val (.int p2), .val (.int p3), .val (.int p4), .val (.int 0), .val (.int wd), .val (.int mk), .val (.int c0), .val (.int c1), .val (.int c2), .val (.int c3), .val (.ref b570), .unset, .unset] [.ref b572])) _
    refine XS.astore X574.here hx rfl (hB at_129) rfl rfl (l' := #[.val (.int p0), .val (.int p1), .val (.int p2), .val (.int p3), .val (.int p4), .val (.int 0), .val (.int wd), .val (.int mk), .val (.int c0), .val (.int c1), .val (.int c2), .val (.int c3), .val (.ref b570), .val (.ref b572), .unset]) rfl ?_
    show Steps _ _ _ (T574.setTop (mkF m 131 #[.val (.int p0), .val (.int p1), .val (.int p2), .val (.int p3), .val (.int p4), .val (.int 0), .val (.int wd), .val (.int mk), .val (.int c0), .val (.int c1), .val (.int c2), .val (.int c3), .val (.ref b570), .val (.ref b572), .unset] [])) _
    refine st577 _ ?_
    show Steps _ _ _ (T577.setTop (mkF m 192 #[.val (.int p0), .val (.int p1), .val (.int p2), .val (.int p3), .val (.int p4), .val (.int 0), .val (.int wd), .val (.int mk), .val (.int c0), .val (.int c1), .val (.int c2), .val (.int c3), .val (.ref b570), .val (.ref b572), .unset] [(.int (own_valid ([] : List Int32)))])) _
    refine XS.istore X577.here hx rfl (hB at_192) rfl (l' := #[.val (.int p0), .val (.int p1), .val (.int p2), .val (.int p3), .val (.int p4), .val (.int 0), .val (.int wd), .val (.int mk), .val (.int c0), .val (.int c1), .val (.int c2), .val (.int c3), .val (.ref b570), .val (.ref b572), .val (.int (own_valid ([] : List Int32)))]) rfl ?_
    refine XS.aload X577.here hx rfl (hB at_194) rfl rfl ?_
    refine st579 _ ?_
    show Steps _ _ _ (T579.setTop (mkF m 199 #[.val (.int p0), .val (.int p1), .val (.int p2), .val (.int p3), .val (.int p4), .val (.int 0), .val (.int wd), .val (.int mk), .val (.int c0), .val (.int c1), .val (.int c2), .val (.int c3), .val (.ref b570), .val (.ref b572), .val (.int (own_valid ([] : List Int32)))] [(.int (own_valid ([] : List Int32)))])) _
    refine XS.iload X579.here hx rfl (hB at_199) rfl ?_
    refine XS.icmpNo X579.here hx rfl (hB at_201) rfl (teq (rfl : (own_valid ([] : List Int32)) = (own_valid ([] : List Int32)))).2 ?_
    refine XS.iconst X579.here hx rfl (hB at_204) ?_
    refine XS.goto X579.here hx rfl (pc0 := 205) (pc' := 209) rfl (hB at_205) (by decide) (by decide) ?_
    exact retN X579 hx (t := .boolean) Bd.returns (by simp) (hB at_209) hr
  · show Q0 Z G1 fm p0 p1 p2 p3 p4 h0 n0 _ T579.heap _
    exact ⟨rfl, N579, K0_584⟩
  · show CHr Z own_EL s.vm s.heap T579.vm T579.heap
    rw [hh]
    exact hFin
theorem rm0_1 (l : Launch) (Z : State) (a0 : Array Value) (G1 : Int32) (fm : Value) (hG : Glob Z a0 G1 fm) (ws : List Jvm.Cond) (p0 : Int32) (p1 : Int32) (p2 : Int32) (p3 : Int32) (p4 : Int32) (h0 : Heap) (n0 : Nat) (Z0 : n0 ≤ h0.size) (X00 : Old Z n0 h0) (hn : ((p0 &&& (2147483647 : Int32)) % (5 : Int32)) = (1 : Int32)) :
    MetFree l x (head1 (Jvm.Cond.code x code maxLocals ret :: ws) room_1) (fun a U => a = #[.int p0, .int p1, .int p2, .int p3, .int p4] ∧ Z.Warmed39 U.vm ∧ U.heap = h0 ∧ CHv Z own_EL U.vm h0) (fun _ _ _ _ _ => True) (fun _ U o U' => ∃ v L, o = .returned v ∧ Q0 Z G1 fm p0 p1 p2 p3 p4 h0 n0 v U'.heap L ∧ CHr Z own_EL U.vm U.heap U'.vm U'.heap ∧ ReturnedEndW U o U' L room_1.cells room_1.slots) := by
  obtain ⟨hw, O_cs, P_cs, O_as, O_hi, O_lo, O_fm, R_fm⟩ := id hG
  have W := @own_W _ _ hw
  refine MetFree.of_bodySF (plainFor_of_name pn_com_example_label_lattice_labellattice_NamesIsValidPinLaw) hisR ?_
  intro p e s m args below meth c s₁ Bd hml0 hP hK
  obtain ⟨rfl, hZ, hh, hCH⟩ := hP
  have hx := Bd.exec
  have hby := Bd.bytes
  have hB := @hb _ _ hby
  have hml : c.maxLocals = 15 := hml0
  have hown : s.vm.findClass "com/example/label_lattice/labellattice/NamesIsValidPinLaw" = some m.cls := findClass_of_methodNamed Bd.named
  have hnm := (name_of_methodNamed Bd.named Bd.method).1
  have X0 : Stand p l e room_1 (s.setVm s.vm) m #[.int p0, .int p1, .int p2, .int p3, .int p4] below meth c s₁ [] 0 0 := Stand.of_body Bd
  have e0 : s₁.heap = h0 := by rw [← hh, Bd.state]; rfl
  have hS0 : s.Since s.vm h0.size := (State.WarmedH.refl s).since _
  have hk0 : h0.size ≤ h0.size := Nat.le_refl _
  have R0 : CHr Z own_EL s.vm h0 s.vm h0 := CHr.refl hCH
  have hEL := own_ew hw
  have N0 := Fr.nil n0
  have pre0 : ∀ t, Steps p.tables e below (s₁.setTop (mkF m 0 #[.val (.int p0), .val (.int p1), .val (.int p2), .val (.int p3), .val (.int p4), .unset, .unset, .unset, .unset, .unset, .unset, .unset, .unset, .unset, .unset] [])) t → Steps p.tables e below (s₁.setTop (entryFrame m #[.int p0, .int p1, .int p2, .int p3, .int p4] maxLocals)) t := fun t kk_ => castTop (ef_code_IIIII m p0 p1 p2 p3 p4) kk_
  obtain ⟨wd, hwd⟩ : ∃ z : Int32, z = (if (((p0.toUInt32 >>> ((8 : Int32) &&& 31).toUInt32).toInt32) &&& (1 : Int32)) = (0 : Int32) then (0 : Int32) else (1 : Int32)) := ⟨_, rfl⟩
  obtain ⟨mk, hmk⟩ : ∃ z : Int32, z = (if wd = (0 : Int32) then (127 : Int32) else (65535 : Int32)) := ⟨_, rfl⟩
  obtain ⟨c0, hq0⟩ : ∃ z : Int32, z = ((p1 &&& mk).toUInt32.toUInt16.toUInt32.toInt32) := ⟨_, rfl⟩
  have hu0 : own_u16 c0 := by rw [hq0]; exact own_i2c _
  obtain ⟨c1, hq1⟩ : ∃ z : Int32, z = ((p2 &&& mk).toUInt32.toUInt16.toUInt32.toInt32) := ⟨_, rfl⟩
  have hu1 : own_u16 c1 := by rw [hq1]; exact own_i2c _
  obtain ⟨c2, hq2⟩ : ∃ z : Int32, z = ((p3 &&& mk).toUInt32.toUInt16.toUInt32.toInt32) := ⟨_, rfl⟩
  have hu2 : own_u16 c2 := by rw [hq2]; exact own_i2c _
  obtain ⟨c3, hq3⟩ : ∃ z : Int32, z = ((p4 &&& mk).toUInt32.toUInt16.toUInt32.toInt32) := ⟨_, rfl⟩
  have hu3 : own_u16 c3 := by rw [hq3]; exact own_i2c _
  obtain ⟨T585, h585, k585, X585, e585, E585, A585, st585⟩ := newP X0 hx hZ (W 1 rfl) e0 (g := (mkF m 69 #[.val (.int p0), .val (.int p1), .val (.int p2), .val (.int p3), .val (.int p4), .val (.int 1), .val (.int wd), .val (.int mk), .val (.int c0), .val (.int c1), .val (.int c2), .val (.int c3), .unset, .unset, .unset] [.int 1])) rfl (hB at_69) rfl (by decide) (cap := 1) (by decide) (by decide) (by decide) (by decide)
  obtain ⟨b585, g585⟩ : ∃ z, z = h0.size := ⟨_, rfl⟩
  rw [← g585] at A585 st585
  have Z586 : n0 ≤ h585.size := Nat.le_trans Z0 E585.1
  have K0_586 : Keep h0 h585 [] := (Keep.refl h0 []).ext E585
  have O586 : Old Z n0 h585 := X00.ext E585
  have R586 : CHr Z own_EL s.vm h0 s.vm h585 := R0.trans (CHr.ext E585 R0.1)
  have hk586 : h0.size ≤ h585.size := Nat.le_trans hk0 E585.1
  have lo_b585 : h0.size ≤ b585 := Nat.le_of_eq g585.symm
  have g_b585 : n0 ≤ b585 := Nat.le_trans Z0 lo_b585
  have l0_b585 : h0.size ≤ b585 := Nat.le_trans (Keep.refl h0 []).1 lo_b585
  have V_b585 : Arv Z h585 b585 k585 .char (1 : Int32) [.int 0] (.int 0) := (Arv.new A585 (by decide)).pad (pad_rep [] (.int 0) 1)
  obtain ⟨clq587, Arq587, qaq587, Sq587, Nq587, Hq587, Gq587⟩ := id V_b585
  have hinq587 := inb_of (j := (0 : Int32)) Sq587 ⟨by decide, by decide⟩
  obtain ⟨T588, h588, X588, e588, W588, st588⟩ := stC X585 hx hZ e585 Arq587 (j := (0 : Int32)) hinq587 (g := (mkF m 83 #[.val (.int p0), .val (.int p1), .val (.int p2), .val (.int p3), .val (.int p4), .val (.int 1), .val (.int wd), .val (.int mk), .val (.int c0), .val (.int c1), .val (.int c2), .val (.int c3), .val (.ref b585), .unset, .unset] [.int c0, .int 0, .ref b585])) rfl rfl (hB at_83)
  have V588 : Arv Z h588 b585 k585 .char (1 : Int32) [(.int (nar .char c0))] (.int 0) := Arv.set Arq587 qaq587 Sq587 Nq587 Hq587 Gq587 (fits_nar_char _) W588 0 rfl (own_ble rfl)
  rw [own_n16 hu0] at V588
  have Z589 : n0 ≤ h588.size := Nat.le_trans Z586 (Keep.of_wr W588).1
  have K0_589 : Keep h0 h588 [] := K0_586.wr W588 (Or.inr l0_b585)
  have O589 : Old Z n0 h588 := O586.wr W588 g_b585
  have R589 : CHr Z own_EL s.vm h0 s.vm h588 := R586.trans (CHr.wr W588 (Safe.arv hZ.alike V_b585 (by decide)) R586.1)
  have hk589 : h0.size ≤ h588.size := Nat.le_trans hk586 (Keep.of_wr W588).1
  have N588 := Fr.snoc X588 N0 g_b585
  obtain ⟨T590, h590, X590, e590, E590, A590, D590, -, st590⟩ := newO X588 hx hZ hown (W 2 rfl) (W 3 rfl) (W 4 rfl) e588 (g := (mkF m 120 #[.val (.int p0), .val (.int p1), .val (.int p2), .val (.int p3), .val (.int p4), .val (.int 1), .val (.int wd), .val (.int mk), .val (.int c0), .val (.int c1), .val (.int c2), .val (.int c3), .val (.ref b585), .unset, .unset] [])) rfl (hB at_120) (by decide) (by decide)
  obtain ⟨b590, g590⟩ : ∃ z, z = h588.size := ⟨_, rfl⟩
  rw [← g590] at A590 D590 st590
  have Z591 : n0 ≤ h590.size := Nat.le_trans Z589 E590.1
  have K0_591 : Keep h0 h590 [] := K0_589.ext E590
  have O591 : Old Z n0 h590 := O589.ext E590
  have R591 : CHr Z own_EL s.vm h0 s.vm h590 := R589.trans (CHr.ext E590 R589.1)
  have hk591 : h0.size ≤ h590.size := Nat.le_trans hk589 E590.1
  have lo_b590 : h588.size ≤ b590 := Nat.le_of_eq g590.symm
  have g_b590 : n0 ≤ b590 := Nat.le_trans Z589 lo_b590
  have l0_b590 : h0.size ≤ b590 := Nat.le_trans K0_589.1 lo_b590
  have F_value_b590 : Fld Z h590 b590 "java/lang/String" "value" "[B" .null := D590 (Or.inr (W 17 rfl)) (ty := (.array .byte)) (by decide)
  have F_coder_b590 : Fld Z h590 b590 "java/lang/String" "coder" "B" (.int 0) := D590 (Or.inr (W 18 rfl)) (ty := .byte) (by decide)
  have f593 := (V588.ext E590)
  -- pc 126: java/lang/String.<init>
  obtain ⟨_, _, ⟨T592, L592, k592, n592⟩, -, X592, ⟨Lc592, hQ592, l592, y592, z592⟩, st592⟩ := X590.specialBack hx (y := y19) rfl hown (mvT hZ (W 5 rfl)) (mvT hZ (W 6 rfl)) (mvT hZ (W 7 rfl)) (by decide) (backOf (W := 1) (rmini1 l Z a0 G1 fm hG [] b590 b585 k585 c0 h590 n0 Z591 O591 A590 g_b590 F_value_b590 F_coder_b590 f593 (Nat.ne_of_lt (Nat.lt_of_lt_of_le V588.lt lo_b590)) (own_all1 hu0)) hZ (W 7 rfl) (W 4 rfl) (by decide) (by decide)) (g := (mkF m 126 #[.val (.int p0), .val (.int p1), .val (.int p2), .val (.int p3), .val (.int p4), .val (.int 1), .val (.int wd), .val (.int mk), .val (.int c0), .val (.int c1), .val (.int c2), .val (.int c3), .val (.ref b585), .unset, .unset] [.ref b585, .ref b590, .ref b590])) rfl (by rw [hml]; rfl) (Steps.refl _) (a := b590) (argsL := [.ref b585]) (rest := [.ref b590]) (lenOf pd___C_V rfl) rfl (by show 2 * 0 + _ ≤ _; exact Nat.le_of_eq rfl) (hB at_126) (fun _ _ => ⟨rfl, e590, (by decide : 2 + 2 ≤ _), (by decide : 5 + 3 ≤ _)⟩)
  dsimp only [Pt.U, Pt.locs, Pt.cells, Pt.slots] at X592 l592 y592 z592 st592 hQ592
  subst l592 y592 z592
  obtain ⟨t_592, kb_592, cd_592, z_592, vs_592, rfl, N592q, K592, f592_0, f592_1, f592_2, f592_3, f592_4⟩ := hQ592
  have N592 := Fr.app N588 N592q
  have Z594 : n0 ≤ T592.heap.size := Nat.le_trans Z591 K592.1
  have K0_594 : Keep h0 T592.heap [] := K0_591.trans K592 (allS (Or.inr l0_b590) all0)
  have O594 : Old Z n0 T592.heap := O591.keep K592 (allS g_b590 all0)
  have R594 : CHr Z own_EL s.vm h0 s.vm T592.heap := R591.trans (CHr.keep K592 (sfS (own_safeS hZ.alike A590 F_value_b590) sf0) R591.1)
  have hk594 : h0.size ≤ T592.heap.size := Nat.le_trans hk591 K592.1
  obtain ⟨T595, L595, X595, N595, K595, st595⟩ := sgexp Z a0 G1 fm hG p0 p1 p2 p3 p4 (1 : Int32) wd mk c0 c1 c2 c3 b585 b590 ([c0] : List Int32) 4 8 T592.heap n0 Z594 O594 (Or.inr (Or.inl ⟨rfl, rfl⟩)) (by decide) (by decide) X592 hx hZ hby hml hown rfl N592
  have Z596 : n0 ≤ T595.heap.size := Nat.le_trans Z594 K595.1
  have K0_596 : Keep h0 T595.heap [] := K0_594.trans K595 all0
  have O596 : Old Z n0 T595.heap := O594.keep K595 all0
  have R596 : CHr Z own_EL s.vm h0 s.vm T595.heap := R594.trans (CHr.keep K595 sf0 R594.1)
  have hk596 : h0.size ≤ T595.heap.size := Nat.le_trans hk594 K595.1
  have f598 := (f592_0.keep K595)
  have f599 := (f592_1.keep K595 nin0)
  have f600 := (f592_2.keep K595 nin0)
  have f601 := (f592_3.keep K595 nin0)
  -- pc 196: com/example/label_lattice/labellattice/Names.isValid
  obtain ⟨_, _, ⟨T597, L597, k597, n597⟩, -, X597, ⟨Lc597, hQ597, l597, y597, z597⟩, st597⟩ := Jvm.LawKit.callS X595 hx (y := y24) hown (mvT hZ (W 23 rfl)) (mvT hZ (W 24 rfl)) (mvT hZ (W 25 rfl)) (mvT hZ (W 26 rfl)) (by decide) (backOf (W := 0) (rmisv l Z a0 G1 fm hG [] b590 t_592 kb_592 cd_592 z_592 vs_592 ([c0] : List Int32) (1 : Int32) T595.heap n0 Z596 O596 f598 f599 f600 f601 f592_4 (own_ble rfl) (own_all1 hu0) rfl) hZ (W 26 rfl) (W 25 rfl) (by decide) (by decide)) (g := (mkF m 196 #[.val (.int p0), .val (.int p1), .val (.int p2), .val (.int p3), .val (.int p4), .val (.int 1), .val (.int wd), .val (.int mk), .val (.int c0), .val (.int c1), .val (.int c2), .val (.int c3), .val (.ref b585), .val (.ref b590), .val (.int (own_valid ([c0] : List Int32)))] [.ref b590])) rfl (by rw [hml]; rfl) (argsL := [.ref b590]) (rest := []) (lenOf pd__Ljava_lang_String__Z rfl) rfl (by show 2 * 0 + _ ≤ _; exact Nat.le_of_eq rfl) (hB at_196) (fun _ _ => ⟨rfl, rfl, (by decide : 4 + 0 ≤ _), (by decide : 8 + 0 ≤ _)⟩)
  dsimp only [Pt.U, Pt.locs, Pt.cells, Pt.slots] at X597 l597 y597 z597 st597 hQ597
  subst l597 y597 z597
  obtain ⟨rfl, N597q, K597⟩ := hQ597
  have N597 := Fr.app N595 N597q
  have Z602 : n0 ≤ T597.heap.size := Nat.le_trans Z596 K597.1
  have K0_602 : Keep h0 T597.heap [] := K0_596.trans K597 all0
  have O602 : Old Z n0 T597.heap := O596.keep K597 all0
  have R602 : CHr Z own_EL s.vm h0 s.vm T597.heap := R596.trans (CHr.keep K597 sf0 R596.1)
  have hk602 : h0.size ≤ T597.heap.size := Nat.le_trans hk596 K597.1
  obtain ⟨fs, hr, hrun, hended, hend⟩ := Jvm.Stand.leaveW (v := some (.int 1)) X597 hS0 hk602 (fun h => by rw [Bd.returns] at h; cases h)
  have hFin := R602.trans (CHv.at X597 hZ hEL R602.1)
  refine ⟨_, _, pre0 _ ?_, hrun, hended, _, _, rfl, ?_, ?_, own_mono hend (own_ble rfl) (own_ble rfl)⟩
  · show Steps _ _ _ (s₁.setTop (mkF m 0 #[.val (.int p0), .val (.int p1), .val (.int p2), .val (.int p3), .val (.int p4), .unset, .unset, .unset, .unset, .unset, .unset, .unset, .unset, .unset, .unset] [])) _
    refine XS.iloadN X0.here hx rfl (hB at_0) rfl ?_
    refine X0.ldcInt hx hown (mvT hZ (W 0 rfl)) (g := (mkF m 1 #[.val (.int p0), .val (.int p1), .val (.int p2), .val (.int p3), .val (.int p4), .unset, .unset, .unset, .unset, .unset, .unset, .unset, .unset, .unset, .unset] [.int p0])) rfl (hB at_1) _ ?_
    refine XS.iand X0.here hx rfl (hB at_3) rfl ?_
    refine XS.iconst X0.here hx rfl (hB at_4) ?_
    refine iremM (g := (mkF m 5 #[.val (.int p0), .val (.int p1), .val (.int p2), .val (.int p3), .val (.int p4), .unset, .unset, .unset, .unset, .unset, .unset, .unset, .unset, .unset, .unset] [.int 5, (.int (p0 &&& (2147483647 : Int32)))])) X0 hx rfl (hB at_5) rfl (by decide) ?_
    show Steps _ _ _ (s₁.setTop (mkF m 6 #[.val (.int p0), .val (.int p1), .val (.int p2), .val (.int p3), .val (.int p4), .unset, .unset, .unset, .unset, .unset, .unset, .unset, .unset, .unset, .unset] [(.int ((p0 &&& (2147483647 : Int32)) % (5 : Int32)))])) _
    rw [hn]
    show Steps _ _ _ (s₁.setTop (mkF m 6 #[.val (.int p0), .val (.int p1), .val (.int p2), .val (.int p3), .val (.int p4), .unset, .unset, .unset, .unset, .unset, .unset, .unset, .unset, .unset, .unset] [.int 1])) _
    refine XS.istore X0.here hx rfl (hB at_6) rfl (l' := #[.val (.int p0), .val (.int p1), .val (.int p2), .val (.int p3), .val (.int p4), .val (.int 1), .unset, .unset, .unset, .unset, .unset, .unset, .unset, .unset, .unset]) rfl ?_
    refine XS.iloadN X0.here hx rfl (hB at_8) rfl ?_
    refine XS.bipush X0.here hx rfl (hB at_9) ?_
    refine XS.iushr X0.here hx rfl (hB at_11) rfl ?_
    refine XS.iconst X0.here hx rfl (hB at_12) ?_
    refine XS.iand X0.here hx rfl (hB at_13) rfl ?_
    show Steps _ _ _ (s₁.setTop (mkF m 14 #[.val (.int p0), .val (.int p1), .val (.int p2), .val (.int p3), .val (.int p4), .val (.int 1), .unset, .unset, .unset, .unset, .unset, .unset, .unset, .unset, .unset] [(.int (((p0.toUInt32 >>> ((8 : Int32) &&& 31).toUInt32).toInt32) &&& (1 : Int32)))])) _
    refine Steps.trans (?_ : Steps p.tables e below _ (s₁.setTop (mkF m 22 #[.val (.int p0), .val (.int p1), .val (.int p2), .val (.int p3), .val (.int p4), .val (.int 1), .unset, .unset, .unset, .unset, .unset, .unset, .unset, .unset, .unset] [.int wd]))) ?_
    · by_cases hj : (((p0.toUInt32 >>> ((8 : Int32) &&& 31).toUInt32).toInt32) &&& (1 : Int32)) = (0 : Int32)
      · show Steps _ _ _ (s₁.setTop (mkF m 14 #[.val (.int p0), .val (.int p1), .val (.int p2), .val (.int p3), .val (.int p4), .val (.int 1), .unset, .unset, .unset, .unset, .unset, .unset, .unset, .unset, .unset] [(.int (((p0.toUInt32 >>> ((8 : Int32) &&& 31).toUInt32).toInt32) &&& (1 : Int32)))])) _
        refine XS.ifYes X0.here hx rfl (pc0 := 14) (pc' := 21) rfl (hB at_14) rfl ((if0 _ _).trans (teq (hj : (((p0.toUInt32 >>> ((8 : Int32) &&& 31).toUInt32).toInt32) &&& (1 : Int32)) = (0 : Int32))).1) (by decide) (by decide) ?_
        refine XS.iconst X0.here hx rfl (hB at_21) ?_
        rw [hwd, if_pos hj]
        exact Steps.refl _
      · show Steps _ _ _ (s₁.setTop (mkF m 14 #[.val (.int p0), .val (.int p1), .val (.int p2), .val (.int p3), .val (.int p4), .val (.int 1), .unset, .unset, .unset, .unset, .unset, .unset, .unset, .unset, .unset] [(.int (((p0.toUInt32 >>> ((8 : Int32) &&& 31).toUInt32).toInt32) &&& (1 : Int32)))])) _
        refine XS.ifNo X0.here hx rfl (hB at_14) rfl ((if0 _ _).trans (feq (hj : ¬ ((((p0.toUInt32 >>> ((8 : Int32) &&& 31).toUInt32).toInt32) &&& (1 : Int32)) = (0 : Int32)))).1) ?_
        refine XS.iconst X0.here hx rfl (hB at_17) ?_
        refine XS.goto X0.here hx rfl (pc0 := 18) (pc' := 22) rfl (hB at_18) (by decide) (by decide) ?_
        rw [hwd, if_neg hj]
        exact Steps.refl _
    show Steps _ _ _ (s₁.setTop (mkF m 22 #[.val (.int p0), .val (.int p1), .val (.int p2), .val (.int p3), .val (.int p4), .val (.int 1), .unset, .unset, .unset, .unset, .unset, .unset, .unset, .unset, .unset] [.int wd])) _
    refine XS.istore X0.here hx rfl (hB at_22) rfl (l' := #[.val (.int p0), .val (.int p1), .val (.int p2), .val (.int p3), .val (.int p4), .val (.int 1), .val (.int wd), .unset, .unset, .unset, .unset, .unset, .unset, .unset, .unset]) rfl ?_
    refine XS.iload X0.here hx rfl (hB at_24) rfl ?_
    show Steps _ _ _ (s₁.setTop (mkF m 26 #[.val (.int p0), .val (.int p1), .val (.int p2), .val (.int p3), .val (.int p4), .val (.int 1), .val (.int wd), .unset, .unset, .unset, .unset, .unset, .unset, .unset, .unset] [.int wd])) _
    refine Steps.trans (?_ : Steps p.tables e below _ (s₁.setTop (mkF m 36 #[.val (.int p0), .val (.int p1), .val (.int p2), .val (.int p3), .val (.int p4), .val (.int 1), .val (.int wd), .unset, .unset, .unset, .unset, .unset, .unset, .unset, .unset] [.int mk]))) ?_
    · by_cases hj : wd = (0 : Int32)
      · show Steps _ _ _ (s₁.setTop (mkF m 26 #[.val (.int p0), .val (.int p1), .val (.int p2), .val (.int p3), .val (.int p4), .val (.int 1), .val (.int wd), .unset, .unset, .unset, .unset, .unset, .unset, .unset, .unset] [.int wd])) _
        refine XS.ifYes X0.here hx rfl (pc0 := 26) (pc' := 34) rfl (hB at_26) rfl ((if0 _ _).trans (teq (hj : wd = (0 : Int32))).1) (by decide) (by decide) ?_
        refine XS.bipush X0.here hx rfl (hB at_34) ?_
        rw [hmk, if_pos hj]
        exact Steps.refl _
      · show Steps _ _ _ (s₁.setTop (mkF m 26 #[.val (.int p0), .val (.int p1), .val (.int p2), .val (.int p3), .val (.int p4), .val (.int 1), .val (.int wd), .unset, .unset, .unset, .unset, .unset, .unset, .unset, .unset] [.int wd])) _
        refine XS.ifNo X0.here hx rfl (hB at_26) rfl ((if0 _ _).trans (feq (hj : ¬ (wd = (0 : Int32)))).1) ?_
        refine X0.ldcInt hx hown (mvT hZ (W 83 rfl)) (g := (mkF m 29 #[.val (.int p0), .val (.int p1), .val (.int p2), .val (.int p3), .val (.int p4), .val (.int 1), .val (.int wd), .unset, .unset, .unset, .unset, .unset, .unset, .unset, .unset] [])) rfl (hB at_29) _ ?_
        refine XS.goto X0.here hx rfl (pc0 := 31) (pc' := 36) rfl (hB at_31) (by decide) (by decide) ?_
        rw [hmk, if_neg hj]
        exact Steps.refl _
    show Steps _ _ _ (s₁.setTop (mkF m 36 #[.val (.int p0), .val (.int p1), .val (.int p2), .val (.int p3), .val (.int p4), .val (.int 1), .val (.int wd), .unset, .unset, .unset, .unset, .unset, .unset, .unset, .unset] [.int mk])) _
    refine XS.istore X0.here hx rfl (hB at_36) rfl (l' := #[.val (.int p0), .val (.int p1), .val (.int p2), .val (.int p3), .val (.int p4), .val (.int 1), .val (.int wd), .val (.int mk), .unset, .unset, .unset, .unset, .unset, .unset, .unset]) rfl ?_
    refine XS.iloadN X0.here hx rfl (hB at_38) rfl ?_
    refine XS.iload X0.here hx rfl (hB at_39) rfl ?_
    refine XS.iand X0.here hx rfl (hB at_41) rfl ?_
    refine XS.i2c X0.here hx rfl (hB at_42) rfl ?_
    show Steps _ _ _ (s₁.setTop (mkF m 43 #[.val (.int p0), .val (.int p1), .val (.int p2), .val (.int p3), .val (.int p4), .val (.int 1), .val (.int wd), .val (.int mk), .unset, .unset, .unset, .unset, .unset, .unset, .unset] [(.int ((p1 &&& mk).toUInt32.toUInt16.toUInt32.toInt32))])) _
    rw [← hq0]
    show Steps _ _ _ (s₁.setTop (mkF m 43 #[.val (.int p0), .val (.int p1), .val (.int p2), .val (.int p3), .val (.int p4), .val (.int 1), .val (.int wd), .val (.int mk), .unset, .unset, .unset, .unset, .unset, .unset, .unset] [.int c0])) _
    refine XS.istore X0.here hx rfl (hB at_43) rfl (l' := #[.val (.int p0), .val (.int p1), .val (.int p2), .val (.int p3), .val (.int p4), .val (.int 1), .val (.int wd), .val (.int mk), .val (.int c0), .unset, .unset, .unset, .unset, .unset, .unset]) rfl ?_
    refine XS.iloadN X0.here hx rfl (hB at_45) rfl ?_
    refine XS.iload X0.here hx rfl (hB at_46) rfl ?_
    refine XS.iand X0.here hx rfl (hB at_48) rfl ?_
    refine XS.i2c X0.here hx rfl (hB at_49) rfl ?_
    show Steps _ _ _ (s₁.setTop (mkF m 50 #[.val (.int p0), .val (.int p1), .val (.int p2), .val (.int p3), .val (.int p4), .val (.int 1), .val (.int wd), .val (.int mk), .val (.int c0), .unset, .unset, .unset, .unset, .unset, .unset] [(.int ((p2 &&& mk).toUInt32.toUInt16.toUInt32.toInt32))])) _
    rw [← hq1]
    show Steps _ _ _ (s₁.setTop (mkF m 50 #[.val (.int p0), .val (.int p1), .val (.int p2), .val (.int p3), .val (.int p4), .val (.int 1), .val (.int wd), .val (.int mk), .val (.int c0), .unset, .unset, .unset, .unset, .unset, .unset] [.int c1])) _
    refine XS.istore X0.here hx rfl (hB at_50) rfl (l' := #[.val (.int p0), .val (.int p1), .val (.int p2), .val (.int p3), .val (.int p4), .val (.int 1), .val (.int wd), .val (.int mk), .val (.int c0), .val (.int c1), .unset, .unset, .unset, .unset, .unset]) rfl ?_
    refine XS.iloadN X0.here hx rfl (hB at_52) rfl ?_
    refine XS.iload X0.here hx rfl (hB at_53) rfl ?_
    refine XS.iand X0.here hx rfl (hB at_55) rfl ?_
    refine XS.i2c X0.here hx rfl (hB at_56) rfl ?_
    show Steps _ _ _ (s₁.setTop (mkF m 57 #[.val (.int p0), .val (.int p1), .val (.int p2), .val (.int p3), .val (.int p4), .val (.int 1), .val (.int wd), .val (.int mk), .val (.int c0), .val (.int c1), .unset, .unset, .unset, .unset, .unset] [(.int ((p3 &&& mk).toUInt32.toUInt16.toUInt32.toInt32))])) _
    rw [← hq2]
    show Steps _ _ _ (s₁.setTop (mkF m 57 #[.val (.int p0), .val (.int p1), .val (.int p2), .val (.int p3), .val (.int p4), .val (.int 1), .val (.int wd), .val (.int mk), .val (.int c0), .val (.int c1), .unset, .unset, .unset, .unset, .unset] [.int c2])) _
    refine XS.istore X0.here hx rfl (hB at_57) rfl (l' := #[.val (.int p0), .val (.int p1), .val (.int p2), .val (.int p3), .val (.int p4), .val (.int 1), .val (.int wd), .val (.int mk), .val (.int c0), .val (.int c1), .val (.int c2), .unset, .unset, .unset, .unset]) rfl ?_
    refine XS.iload X0.here hx rfl (hB at_59) rfl ?_
    refine XS.iload X0.here hx rfl (hB at_61) rfl ?_
    refine XS.iand X0.here hx rfl (hB at_63) rfl ?_
    refine XS.i2c X0.here hx rfl (hB at_64) rfl ?_
    show Steps _ _ _ (s₁.setTop (mkF m 65 #[.val (.int p0), .val (.int p1), .val (.int p2), .val (.int p3), .val (.int p4), .val (.int 1), .val (.int wd), .val (.int mk), .val (.int c0), .val (.int c1), .val (.int c2), .unset, .unset, .unset, .unset] [(.int ((p4 &&& mk).toUInt32.toUInt16.toUInt32.toInt32))])) _
    rw [← hq3]
    show Steps _ _ _ (s₁.setTop (mkF m 65 #[.val (.int p0), .val (.int p1), .val (.int p2), .val (.int p3), .val (.int p4), .val (.int 1), .val (.int wd), .val (.int mk), .val (.int c0), .val (.int c1), .val (.int c2), .unset, .unset, .unset, .unset] [.int c3])) _
    refine XS.istore X0.here hx rfl (hB at_65) rfl (l' := #[.val (.int p0), .val (.int p1), .val (.int p2), .val (.int p3), .val (.int p4), .val (.int 1), .val (.int wd), .val (.int mk), .val (.int c0), .val (.int c1), .val (.int c2), .val (.int c3), .unset, .unset, .unset]) rfl ?_
    refine XS.iload X0.here hx rfl (hB at_67) rfl ?_
    refine st585 _ ?_
    show Steps _ _ _ (T585.setTop (mkF m 71 #[.val (.int p0), .val (.int p1), .val (.int p2), .val (.int p3), .val (.int p4), .val (.int 1), .val (.int wd), .val (.int mk), .val (.int c0), .val (.int c1), .val (.int c2), .val (.int c3), .unset, .unset, .unset] [.ref b585])) _
    refine XS.astore X585.here hx rfl (hB at_71) rfl rfl (l' := #[.val (.int p0), .val (.int p1), .val (.int p2), .val (.int p3), .val (.int p4), .val (.int 1), .val (.int wd), .val (.int mk), .val (.int c0), .val (.int c1), .val (.int c2), .val (.int c3), .val (.ref b585), .unset, .unset]) rfl ?_
    refine XS.iload X585.here hx rfl (hB at_73) rfl ?_
    refine XS.ifNo X585.here hx rfl (hB at_75) rfl ((if0 _ _).trans (tlt (by decide : (0 : Int32) < (1 : Int32))).2.2.2) ?_
    refine XS.aload X585.here hx rfl (hB at_78) rfl rfl ?_
    refine XS.iconst X585.here hx rfl (hB at_80) ?_
    refine XS.iload X585.here hx rfl (hB at_81) rfl ?_
    refine st588 _ ?_
    show Steps _ _ _ (T588.setTop (mkF m 84 #[.val (.int p0), .val (.int p1), .val (.int p2), .val (.int p3), .val (.int p4), .val (.int 1), .val (.int wd), .val (.int mk), .val (.int c0), .val (.int c1), .val (.int c2), .val (.int c3), .val (.ref b585), .unset, .unset] [])) _
    refine XS.iload X588.here hx rfl (hB at_84) rfl ?_
    refine XS.iconst X588.here hx rfl (hB at_86) ?_
    refine XS.icmpYes X588.here hx rfl (pc0 := 87) (pc' := 96) rfl (hB at_87) rfl (flt (by decide : ¬ ((1 : Int32) < (1 : Int32)))).2.2.2 (by decide) (by decide) ?_
    refine XS.iload X588.here hx rfl (hB at_96) rfl ?_
    refine XS.iconst X588.here hx rfl (hB at_98) ?_
    refine XS.icmpYes X588.here hx rfl (pc0 := 99) (pc' := 108) rfl (hB at_99) rfl (flt (by decide : ¬ ((2 : Int32) < (1 : Int32)))).2.2.2 (by decide) (by decide) ?_
    refine XS.iload X588.here hx rfl (hB at_108) rfl ?_
    refine XS.iconst X588.here hx rfl (hB at_110) ?_
    refine XS.icmpYes X588.here hx rfl (pc0 := 111) (pc' := 120) rfl (hB at_111) rfl (flt (by decide : ¬ ((3 : Int32) < (1 : Int32)))).2.2.2 (by decide) (by decide) ?_
    refine st590 _ ?_
    show Steps _ _ _ (T590.setTop (mkF m 123 #[.val (.int p0), .val (.int p1), .val (.int p2), .val (.int p3), .val (.int p4), .val (.int 1), .val (.int wd), .val (.int mk), .val (.int c0), .val (.int c1), .val (.int c2), .val (.int c3), .val (.ref b585), .unset, .unset] [.ref b590])) _
    refine XS.dup X590.here hx rfl (hB at_123) rfl rfl ?_
    refine XS.aload X590.here hx rfl (hB at_124) rfl rfl ?_
    refine st592.trans ?_
    show Steps _ _ _ (T592.setTop (mkF m 129 #[.val (.int p0), .val (.int p1), .val (.int p2), .val (.int p3), .val (.int p4), .val (.int 1), .val (.int wd), .val (.int mk), .val (.int c0), .val (.int c1), .val (.int c2), .val (.int c3), .val (.ref b585), .unset, .unset] [.ref b590])) _
    refine XS.astore X592.here hx rfl (hB at_129) rfl rfl (l' := #[.val (.int p0), .val (.int p1), .val (.int p2), .val (.int p3), .val (.int p4), .val (.int 1), .val (.int wd), .val (.int mk), .val (.int c0), .val (.int c1), .val (.int c2), .val (.int c3), .val (.ref b585), .val (.ref b590), .unset]) rfl ?_
    show Steps _ _ _ (T592.setTop (mkF m 131 #[.val (.int p0), .val (.int p1), .val (.int p2), .val (.int p3), .val (.int p4), .val (.int 1), .val (.int wd), .val (.int mk), .val (.int c0), .val (.int c1), .val (.int c2), .val (.int c3), .val (.ref b585), .val (.ref b590), .unset] [])) _
    refine st595 _ ?_
    show Steps _ _ _ (T595.setTop (mkF m 192 #[.val (.int p0), .val (.int p1), .val (.int p2), .val (.int p3), .val (.int p4), .val (.int 1), .val (.int wd), .val (.int mk), .val (.int c0), .val (.int c1), .val (.int c2), .val (.int c3), .val (.ref b585), .val (.ref b590), .unset] [(.int (own_valid ([c0] : List Int32)))])) _
    refine XS.istore X595.here hx rfl (hB at_192) rfl (l' := #[.val (.int p0), .val (.int p1), .val (.int p2), .val (.int p3), .val (.int p4), .val (.int 1), .val (.int wd), .val (.int mk), .val (.int c0), .val (.int c1), .val (.int c2), .val (.int c3), .val (.ref b585), .val (.ref b590), .val (.int (own_valid ([c0] : List Int32)))]) rfl ?_
    refine XS.aload X595.here hx rfl (hB at_194) rfl rfl ?_
    refine st597 _ ?_
    show Steps _ _ _ (T597.setTop (mkF m 199 #[.val (.int p0), .val (.int p1), .val (.int p2), .val (.int p3), .val (.int p4), .val (.int 1), .val (.int wd), .val (.int mk), .val (.int c0), .val (.int c1), .val (.int c2), .val (.int c3), .val (.ref b585), .val (.ref b590), .val (.int (own_valid ([c0] : List Int32)))] [(.int (own_valid ([c0] : List Int32)))])) _
    refine XS.iload X597.here hx rfl (hB at_199) rfl ?_
    refine XS.icmpNo X597.here hx rfl (hB at_201) rfl (teq (rfl : (own_valid ([c0] : List Int32)) = (own_valid ([c0] : List Int32)))).2 ?_
    refine XS.iconst X597.here hx rfl (hB at_204) ?_
    refine XS.goto X597.here hx rfl (pc0 := 205) (pc' := 209) rfl (hB at_205) (by decide) (by decide) ?_
    exact retN X597 hx (t := .boolean) Bd.returns (by simp) (hB at_209) hr
  · show Q0 Z G1 fm p0 p1 p2 p3 p4 h0 n0 _ T597.heap _
    exact ⟨rfl, N597, K0_602⟩
  · show CHr Z own_EL s.vm s.heap T597.vm T597.heap
    rw [hh]
    exact hFin
theorem rm0_2 (l : Launch) (Z : State) (a0 : Array Value) (G1 : Int32) (fm : Value) (hG : Glob Z a0 G1 fm) (ws : List Jvm.Cond) (p0 : Int32) (p1 : Int32) (p2 : Int32) (p3 : Int32) (p4 : Int32) (h0 : Heap) (n0 : Nat) (Z0 : n0 ≤ h0.size) (X00 : Old Z n0 h0) (hn : ((p0 &&& (2147483647 : Int32)) % (5 : Int32)) = (2 : Int32)) :
    MetFree l x (head1 (Jvm.Cond.code x code maxLocals ret :: ws) room_1) (fun a U => a = #[.int p0, .int p1, .int p2, .int p3, .int p4] ∧ Z.Warmed39 U.vm ∧ U.heap = h0 ∧ CHv Z own_EL U.vm h0) (fun _ _ _ _ _ => True) (fun _ U o U' => ∃ v L, o = .returned v ∧ Q0 Z G1 fm p0 p1 p2 p3 p4 h0 n0 v U'.heap L ∧ CHr Z own_EL U.vm U.heap U'.vm U'.heap ∧ ReturnedEndW U o U' L room_1.cells room_1.slots) := by
  obtain ⟨hw, O_cs, P_cs, O_as, O_hi, O_lo, O_fm, R_fm⟩ := id hG
  have W := @own_W _ _ hw
  refine MetFree.of_bodySF (plainFor_of_name pn_com_example_label_lattice_labellattice_NamesIsValidPinLaw) hisR ?_
  intro p e s m args below meth c s₁ Bd hml0 hP hK
  obtain ⟨rfl, hZ, hh, hCH⟩ := hP
  have hx := Bd.exec
  have hby := Bd.bytes
  have hB := @hb _ _ hby
  have hml : c.maxLocals = 15 := hml0
  have hown : s.vm.findClass "com/example/label_lattice/labellattice/NamesIsValidPinLaw" = some m.cls := findClass_of_methodNamed Bd.named
  have hnm := (name_of_methodNamed Bd.named Bd.method).1
  have X0 : Stand p l e room_1 (s.setVm s.vm) m #[.int p0, .int p1, .int p2, .int p3, .int p4] below meth c s₁ [] 0 0 := Stand.of_body Bd
  have e0 : s₁.heap = h0 := by rw [← hh, Bd.state]; rfl
  have hS0 : s.Since s.vm h0.size := (State.WarmedH.refl s).since _
  have hk0 : h0.size ≤ h0.size := Nat.le_refl _
  have R0 : CHr Z own_EL s.vm h0 s.vm h0 := CHr.refl hCH
  have hEL := own_ew hw
  have N0 := Fr.nil n0
  have pre0 : ∀ t, Steps p.tables e below (s₁.setTop (mkF m 0 #[.val (.int p0), .val (.int p1), .val (.int p2), .val (.int p3), .val (.int p4), .unset, .unset, .unset, .unset, .unset, .unset, .unset, .unset, .unset, .unset] [])) t → Steps p.tables e below (s₁.setTop (entryFrame m #[.int p0, .int p1, .int p2, .int p3, .int p4] maxLocals)) t := fun t kk_ => castTop (ef_code_IIIII m p0 p1 p2 p3 p4) kk_
  obtain ⟨wd, hwd⟩ : ∃ z : Int32, z = (if (((p0.toUInt32 >>> ((8 : Int32) &&& 31).toUInt32).toInt32) &&& (1 : Int32)) = (0 : Int32) then (0 : Int32) else (1 : Int32)) := ⟨_, rfl⟩
  obtain ⟨mk, hmk⟩ : ∃ z : Int32, z = (if wd = (0 : Int32) then (127 : Int32) else (65535 : Int32)) := ⟨_, rfl⟩
  obtain ⟨c0, hq0⟩ : ∃ z : Int32, z = ((p1 &&& mk).toUInt32.toUInt16.toUInt32.toInt32) := ⟨_, rfl⟩
  have hu0 : own_u16 c0 := by rw [hq0]; exact own_i2c _
  obtain ⟨c1, hq1⟩ : ∃ z : Int32, z = ((p2 &&& mk).toUInt32.toUInt16.toUInt32.toInt32) := ⟨_, rfl⟩
  have hu1 : own_u16 c1 := by rw [hq1]; exact own_i2c _
  obtain ⟨c2, hq2⟩ : ∃ z : Int32, z = ((p3 &&& mk).toUInt32.toUInt16.toUInt32.toInt32) := ⟨_, rfl⟩
  have hu2 : own_u16 c2 := by rw [hq2]; exact own_i2c _
  obtain ⟨c3, hq3⟩ : ∃ z : Int32, z = ((p4 &&& mk).toUInt32.toUInt16.toUInt32.toInt32) := ⟨_, rfl⟩
  have hu3 : own_u16 c3 := by rw [hq3]; exact own_i2c _
  obtain ⟨T603, h603, k603, X603, e603, E603, A603, st603⟩ := newP X0 hx hZ (W 1 rfl) e0 (g := (mkF m 69 #[.val (.int p0), .val (.int p1), .val (.int p2), .val (.int p3), .val (.int p4), .val (.int 2), .val (.int wd), .val (.int mk), .val (.int c0), .val (.int c1), .val (.int c2), .val (.int c3), .unset, .unset, .unset] [.int 2])) rfl (hB at_69) rfl (by decide) (cap := 2) (by decide) (by decide) (by decide) (by decide)
  obtain ⟨b603, g603⟩ : ∃ z, z = h0.size := ⟨_, rfl⟩
  rw [← g603] at A603 st603
  have Z604 : n0 ≤ h603.size := Nat.le_trans Z0 E603.1
  have K0_604 : Keep h0 h603 [] := (Keep.refl h0 []).ext E603
  have O604 : Old Z n0 h603 := X00.ext E603
  have R604 : CHr Z own_EL s.vm h0 s.vm h603 := R0.trans (CHr.ext E603 R0.1)
  have hk604 : h0.size ≤ h603.size := Nat.le_trans hk0 E603.1
  have lo_b603 : h0.size ≤ b603 := Nat.le_of_eq g603.symm
  have g_b603 : n0 ≤ b603 := Nat.le_trans Z0 lo_b603
  have l0_b603 : h0.size ≤ b603 := Nat.le_trans (Keep.refl h0 []).1 lo_b603
  have V_b603 : Arv Z h603 b603 k603 .char (2 : Int32) [.int 0, .int 0] (.int 0) := (Arv.new A603 (by decide)).pad (pad_rep [] (.int 0) 2)
  obtain ⟨clq605, Arq605, qaq605, Sq605, Nq605, Hq605, Gq605⟩ := id V_b603
  have hinq605 := inb_of (j := (0 : Int32)) Sq605 ⟨by decide, by decide⟩
  obtain ⟨T606, h606, X606, e606, W606, st606⟩ := stC X603 hx hZ e603 Arq605 (j := (0 : Int32)) hinq605 (g := (mkF m 83 #[.val (.int p0), .val (.int p1), .val (.int p2), .val (.int p3), .val (.int p4), .val (.int 2), .val (.int wd), .val (.int mk), .val (.int c0), .val (.int c1), .val (.int c2), .val (.int c3), .val (.ref b603), .unset, .unset] [.int c0, .int 0, .ref b603])) rfl rfl (hB at_83)
  have V606 : Arv Z h606 b603 k603 .char (2 : Int32) [(.int (nar .char c0)), .int 0] (.int 0) := Arv.set Arq605 qaq605 Sq605 Nq605 Hq605 Gq605 (fits_nar_char _) W606 0 rfl (own_ble rfl)
  rw [own_n16 hu0] at V606
  have Z607 : n0 ≤ h606.size := Nat.le_trans Z604 (Keep.of_wr W606).1
  have K0_607 : Keep h0 h606 [] := K0_604.wr W606 (Or.inr l0_b603)
  have O607 : Old Z n0 h606 := O604.wr W606 g_b603
  have R607 : CHr Z own_EL s.vm h0 s.vm h606 := R604.trans (CHr.wr W606 (Safe.arv hZ.alike V_b603 (by decide)) R604.1)
  have hk607 : h0.size ≤ h606.size := Nat.le_trans hk604 (Keep.of_wr W606).1
  have N606 := Fr.snoc X606 N0 g_b603
  obtain ⟨clq608, Arq608, qaq608, Sq608, Nq608, Hq608, Gq608⟩ := id V606
  have hinq608 := inb_of (j := (1 : Int32)) Sq608 ⟨by decide, by decide⟩
  obtain ⟨T609, h609, X609, e609, W609, st609⟩ := stC X606 hx hZ e606 Arq608 (j := (1 : Int32)) hinq608 (g := (mkF m 95 #[.val (.int p0), .val (.int p1), .val (.int p2), .val (.int p3), .val (.int p4), .val (.int 2), .val (.int wd), .val (.int mk), .val (.int c0), .val (.int c1), .val (.int c2), .val (.int c3), .val (.ref b603), .unset, .unset] [.int c1, .int 1, .ref b603])) rfl rfl (hB at_95)
  have V609 : Arv Z h609 b603 k603 .char (2 : Int32) [.int c0, (.int (nar .char c1))] (.int 0) := Arv.set Arq608 qaq608 Sq608 Nq608 Hq608 Gq608 (fits_nar_char _) W609 1 rfl (own_ble rfl)
  rw [own_n16 hu1] at V609
  have Z610 : n0 ≤ h609.size := Nat.le_trans Z607 (Keep.of_wr W609).1
  have K0_610 : Keep h0 h609 [] := K0_607.wr W609 (Or.inr l0_b603)
  have O610 : Old Z n0 h609 := O607.wr W609 g_b603
  have R610 : CHr Z own_EL s.vm h0 s.vm h609 := R607.trans (CHr.wr W609 (Safe.arv hZ.alike V606 (by decide)) R607.1)
  have hk610 : h0.size ≤ h609.size := Nat.le_trans hk607 (Keep.of_wr W609).1
  have N609 := Fr.snoc X609 N606 g_b603
  obtain ⟨T611, h611, X611, e611, E611, A611, D611, -, st611⟩ := newO X609 hx hZ hown (W 2 rfl) (W 3 rfl) (W 4 rfl) e609 (g := (mkF m 120 #[.val (.int p0), .val (.int p1), .val (.int p2), .val (.int p3), .val (.int p4), .val (.int 2), .val (.int wd), .val (.int mk), .val (.int c0), .val (.int c1), .val (.int c2), .val (.int c3), .val (.ref b603), .unset, .unset] [])) rfl (hB at_120) (by decide) (by decide)
  obtain ⟨b611, g611⟩ : ∃ z, z = h609.size := ⟨_, rfl⟩
  rw [← g611] at A611 D611 st611
  have Z612 : n0 ≤ h611.size := Nat.le_trans Z610 E611.1
  have K0_612 : Keep h0 h611 [] := K0_610.ext E611
  have O612 : Old Z n0 h611 := O610.ext E611
  have R612 : CHr Z own_EL s.vm h0 s.vm h611 := R610.trans (CHr.ext E611 R610.1)
  have hk612 : h0.size ≤ h611.size := Nat.le_trans hk610 E611.1
  have lo_b611 : h609.size ≤ b611 := Nat.le_of_eq g611.symm
  have g_b611 : n0 ≤ b611 := Nat.le_trans Z610 lo_b611
  have l0_b611 : h0.size ≤ b611 := Nat.le_trans K0_610.1 lo_b611
  have F_value_b611 : Fld Z h611 b611 "java/lang/String" "value" "[B" .null := D611 (Or.inr (W 17 rfl)) (ty := (.array .byte)) (by decide)
  have F_coder_b611 : Fld Z h611 b611 "java/lang/String" "coder" "B" (.int 0) := D611 (Or.inr (W 18 rfl)) (ty := .byte) (by decide)
  have f614 := (V609.ext E611)
  -- pc 126: java/lang/String.<init>
  obtain ⟨_, _, ⟨T613, L613, k613, n613⟩, -, X613, ⟨Lc613, hQ613, l613, y613, z613⟩, st613⟩ := X611.specialBack hx (y := y19) rfl hown (mvT hZ (W 5 rfl)) (mvT hZ (W 6 rfl)) (mvT hZ (W 7 rfl)) (by decide) (backOf (W := 1) (rmini2 l Z a0 G1 fm hG [] b611 b603 k603 c0 c1 h611 n0 Z612 O612 A611 g_b611 F_value_b611 F_coder_b611 f614 (Nat.ne_of_lt (Nat.lt_of_lt_of_le V609.lt lo_b611)) (own_all2 hu0 hu1)) hZ (W 7 rfl) (W 4 rfl) (by decide) (by decide)) (g := (mkF m 126 #[.val (.int p0), .val (.int p1), .val (.int p2), .val (.int p3), .val (.int p4), .val (.int 2), .val (.int wd), .val (.int mk), .val (.int c0), .val (.int c1), .val (.int c2), .val (.int c3), .val (.ref b603), .unset, .unset] [.ref b603, .ref b611, .ref b611])) rfl (by rw [hml]; rfl) (Steps.refl _) (a := b611) (argsL := [.ref b603]) (rest := [.ref b611]) (lenOf pd___C_V rfl) rfl (by show 2 * 0 + _ ≤ _; exact Nat.le_of_eq rfl) (hB at_126) (fun _ _ => ⟨rfl, e611, (by decide : 2 + 2 ≤ _), (by decide : 6 + 6 ≤ _)⟩)
  dsimp only [Pt.U, Pt.locs, Pt.cells, Pt.slots] at X613 l613 y613 z613 st613 hQ613
  subst l613 y613 z613
  obtain ⟨t_613, kb_613, cd_613, z_613, vs_613, rfl, N613q, K613, f613_0, f613_1, f613_2, f613_3, f613_4⟩ := hQ613
  have N613 := Fr.app N609 N613q
  have Z615 : n0 ≤ T613.heap.size := Nat.le_trans Z612 K613.1
  have K0_615 : Keep h0 T613.heap [] := K0_612.trans K613 (allS (Or.inr l0_b611) all0)
  have O615 : Old Z n0 T613.heap := O612.keep K613 (allS g_b611 all0)
  have R615 : CHr Z own_EL s.vm h0 s.vm T613.heap := R612.trans (CHr.keep K613 (sfS (own_safeS hZ.alike A611 F_value_b611) sf0) R612.1)
  have hk615 : h0.size ≤ T613.heap.size := Nat.le_trans hk612 K613.1
  obtain ⟨T616, L616, X616, N616, K616, st616⟩ := sgexp Z a0 G1 fm hG p0 p1 p2 p3 p4 (2 : Int32) wd mk c0 c1 c2 c3 b603 b611 ([c0, c1] : List Int32) 4 12 T613.heap n0 Z615 O615 (Or.inr (Or.inr (Or.inl ⟨rfl, rfl⟩))) (by decide) (by decide) X613 hx hZ hby hml hown rfl N613
  have Z617 : n0 ≤ T616.heap.size := Nat.le_trans Z615 K616.1
  have K0_617 : Keep h0 T616.heap [] := K0_615.trans K616 all0
  have O617 : Old Z n0 T616.heap := O615.keep K616 all0
  have R617 : CHr Z own_EL s.vm h0 s.vm T616.heap := R615.trans (CHr.keep K616 sf0 R615.1)
  have hk617 : h0.size ≤ T616.heap.size := Nat.le_trans hk615 K616.1
  have f619 := (f613_0.keep K616)
  have f620 := (f613_1.keep K616 nin0)
  have f621 := (f613_2.keep K616 nin0)
  have f622 := (f613_3.keep K616 nin0)
  -- pc 196: com/example/label_lattice/labellattice/Names.isValid
  obtain ⟨_, _, ⟨T618, L618, k618, n618⟩, -, X618, ⟨Lc618, hQ618, l618, y618, z618⟩, st618⟩ := Jvm.LawKit.callS X616 hx (y := y24) hown (mvT hZ (W 23 rfl)) (mvT hZ (W 24 rfl)) (mvT hZ (W 25 rfl)) (mvT hZ (W 26 rfl)) (by decide) (backOf (W := 0) (rmisv l Z a0 G1 fm hG [] b611 t_613 kb_613 cd_613 z_613 vs_613 ([c0, c1] : List Int32) (2 : Int32) T616.heap n0 Z617 O617 f619 f620 f621 f622 f613_4 (own_ble rfl) (own_all2 hu0 hu1) rfl) hZ (W 26 rfl) (W 25 rfl) (by decide) (by decide)) (g := (mkF m 196 #[.val (.int p0), .val (.int p1), .val (.int p2), .val (.int p3), .val (.int p4), .val (.int 2), .val (.int wd), .val (.int mk), .val (.int c0), .val (.int c1), .val (.int c2), .val (.int c3), .val (.ref b603), .val (.ref b611), .val (.int (own_valid ([c0, c1] : List Int32)))] [.ref b611])) rfl (by rw [hml]; rfl) (argsL := [.ref b611]) (rest := []) (lenOf pd__Ljava_lang_String__Z rfl) rfl (by show 2 * 0 + _ ≤ _; exact Nat.le_of_eq rfl) (hB at_196) (fun _ _ => ⟨rfl, rfl, (by decide : 4 + 0 ≤ _), (by decide : 12 + 0 ≤ _)⟩)
  dsimp only [Pt.U, Pt.locs, Pt.cells, Pt.slots] at X618 l618 y618 z618 st618 hQ618
  subst l618 y618 z618
  obtain ⟨rfl, N618q, K618⟩ := hQ618
  have N618 := Fr.app N616 N618q
  have Z623 : n0 ≤ T618.heap.size := Nat.le_trans Z617 K618.1
  have K0_623 : Keep h0 T618.heap [] := K0_617.trans K618 all0
  have O623 : Old Z n0 T618.heap := O617.keep K618 all0
  have R623 : CHr Z own_EL s.vm h0 s.vm T618.heap := R617.trans (CHr.keep K618 sf0 R617.1)
  have hk623 : h0.size ≤ T618.heap.size := Nat.le_trans hk617 K618.1
  obtain ⟨fs, hr, hrun, hended, hend⟩ := Jvm.Stand.leaveW (v := some (.int 1)) X618 hS0 hk623 (fun h => by rw [Bd.returns] at h; cases h)
  have hFin := R623.trans (CHv.at X618 hZ hEL R623.1)
  refine ⟨_, _, pre0 _ ?_, hrun, hended, _, _, rfl, ?_, ?_, own_mono hend (own_ble rfl) (own_ble rfl)⟩
  · show Steps _ _ _ (s₁.setTop (mkF m 0 #[.val (.int p0), .val (.int p1), .val (.int p2), .val (.int p3), .val (.int p4), .unset, .unset, .unset, .unset, .unset, .unset, .unset, .unset, .unset, .unset] [])) _
    refine XS.iloadN X0.here hx rfl (hB at_0) rfl ?_
    refine X0.ldcInt hx hown (mvT hZ (W 0 rfl)) (g := (mkF m 1 #[.val (.int p0), .val (.int p1), .val (.int p2), .val (.int p3), .val (.int p4), .unset, .unset, .unset, .unset, .unset, .unset, .unset, .unset, .unset, .unset] [.int p0])) rfl (hB at_1) _ ?_
    refine XS.iand X0.here hx rfl (hB at_3) rfl ?_
    refine XS.iconst X0.here hx rfl (hB at_4) ?_
    refine iremM (g := (mkF m 5 #[.val (.int p0), .val (.int p1), .val (.int p2), .val (.int p3), .val (.int p4), .unset, .unset, .unset, .unset, .unset, .unset, .unset, .unset, .unset, .unset] [.int 5, (.int (p0 &&& (2147483647 : Int32)))])) X0 hx rfl (hB at_5) rfl (by decide) ?_
    show Steps _ _ _ (s₁.setTop (mkF m 6 #[.val (.int p0), .val (.int p1), .val (.int p2), .val (.int p3), .val (.int p4), .unset, .unset, .unset, .unset, .unset, .unset, .unset, .unset, .unset, .unset] [(.int ((p0 &&& (2147483647 : Int32)) % (5 : Int32)))])) _
    rw [hn]
    show Steps _ _ _ (s₁.setTop (mkF m 6 #[.val (.int p0), .val (.int p1), .val (.int p2), .val (.int p3), .val (.int p4), .unset, .unset, .unset, .unset, .unset, .unset, .unset, .unset, .unset, .unset] [.int 2])) _
    refine XS.istore X0.here hx rfl (hB at_6) rfl (l' := #[.val (.int p0), .val (.int p1), .val (.int p2), .val (.int p3), .val (.int p4), .val (.int 2), .unset, .unset, .unset, .unset, .unset, .unset, .unset, .unset, .unset]) rfl ?_
    refine XS.iloadN X0.here hx rfl (hB at_8) rfl ?_
    refine XS.bipush X0.here hx rfl (hB at_9) ?_
    refine XS.iushr X0.here hx rfl (hB at_11) rfl ?_
    refine XS.iconst X0.here hx rfl (hB at_12) ?_
    refine XS.iand X0.here hx rfl (hB at_13) rfl ?_
    show Steps _ _ _ (s₁.setTop (mkF m 14 #[.val (.int p0), .val (.int p1), .val (.int p2), .val (.int p3), .val (.int p4), .val (.int 2), .unset, .unset, .unset, .unset, .unset, .unset, .unset, .unset, .unset] [(.int (((p0.toUInt32 >>> ((8 : Int32) &&& 31).toUInt32).toInt32) &&& (1 : Int32)))])) _
    refine Steps.trans (?_ : Steps p.tables e below _ (s₁.setTop (mkF m 22 #[.val (.int p0), .val (.int p1), .val (.int p2), .val (.int p3), .val (.int p4), .val (.int 2), .unset, .unset, .unset, .unset, .unset, .unset, .unset, .unset, .unset] [.int wd]))) ?_
    · by_cases hj : (((p0.toUInt32 >>> ((8 : Int32) &&& 31).toUInt32).toInt32) &&& (1 : Int32)) = (0 : Int32)
      · show Steps _ _ _ (s₁.setTop (mkF m 14 #[.val (.int p0), .val (.int p1), .val (.int p2), .val (.int p3), .val (.int p4), .val (.int 2), .unset, .unset, .unset, .unset, .unset, .unset, .unset, .unset, .unset] [(.int (((p0.toUInt32 >>> ((8 : Int32) &&& 31).toUInt32).toInt32) &&& (1 : Int32)))])) _
        refine XS.ifYes X0.here hx rfl (pc0 := 14) (pc' := 21) rfl (hB at_14) rfl ((if0 _ _).trans (teq (hj : (((p0.toUInt32 >>> ((8 : Int32) &&& 31).toUInt32).toInt32) &&& (1 : Int32)) = (0 : Int32))).1) (by decide) (by decide) ?_
        refine XS.iconst X0.here hx rfl (hB at_21) ?_
        rw [hwd, if_pos hj]
        exact Steps.refl _
      · show Steps _ _ _ (s₁.setTop (mkF m 14 #[.val (.int p0), .val (.int p1), .val (.int p2), .val (.int p3), .val (.int p4), .val (.int 2), .unset, .unset, .unset, .unset, .unset, .unset, .unset, .unset, .unset] [(.int (((p0.toUInt32 >>> ((8 : Int32) &&& 31).toUInt32).toInt32) &&& (1 : Int32)))])) _
        refine XS.ifNo X0.here hx rfl (hB at_14) rfl ((if0 _ _).trans (feq (hj : ¬ ((((p0.toUInt32 >>> ((8 : Int32) &&& 31).toUInt32).toInt32) &&& (1 : Int32)) = (0 : Int32)))).1) ?_
        refine XS.iconst X0.here hx rfl (hB at_17) ?_
        refine XS.goto X0.here hx rfl (pc0 := 18) (pc' := 22) rfl (hB at_18) (by decide) (by decide) ?_
        rw [hwd, if_neg hj]
        exact Steps.refl _
    show Steps _ _ _ (s₁.setTop (mkF m 22 #[.val (.int p0), .val (.int p1), .val (.int p2), .val (.int p3), .val (.int p4), .val (.int 2), .unset, .unset, .unset, .unset, .unset, .unset, .unset, .unset, .unset] [.int wd])) _
    refine XS.istore X0.here hx rfl (hB at_22) rfl (l' := #[.val (.int p0), .val (.int p1), .val (.int p2), .val (.int p3), .val (.int p4), .val (.int 2), .val (.int wd), .unset, .unset, .unset, .unset, .unset, .unset, .unset, .unset]) rfl ?_
    refine XS.iload X0.here hx rfl (hB at_24) rfl ?_
    show Steps _ _ _ (s₁.setTop (mkF m 26 #[.val (.int p0), .val (.int p1), .val (.int p2), .val (.int p3), .val (.int p4), .val (.int 2), .val (.int wd), .unset, .unset, .unset, .unset, .unset, .unset, .unset, .unset] [.int wd])) _
    refine Steps.trans (?_ : Steps p.tables e below _ (s₁.setTop (mkF m 36 #[.val (.int p0), .val (.int p1), .val (.int p2), .val (.int p3), .val (.int p4), .val (.int 2), .val (.int wd), .unset, .unset, .unset, .unset, .unset, .unset, .unset, .unset] [.int mk]))) ?_
    · by_cases hj : wd = (0 : Int32)
      · show Steps _ _ _ (s₁.setTop (mkF m 26 #[.val (.int p0), .val (.int p1), .val (.int p2), .val (.int p3), .val (.int p4), .val (.int 2), .val (.int wd), .unset, .unset, .unset, .unset, .unset, .unset, .unset, .unset] [.int wd])) _
        refine XS.ifYes X0.here hx rfl (pc0 := 26) (pc' := 34) rfl (hB at_26) rfl ((if0 _ _).trans (teq (hj : wd = (0 : Int32))).1) (by decide) (by decide) ?_
        refine XS.bipush X0.here hx rfl (hB at_34) ?_
        rw [hmk, if_pos hj]
        exact Steps.refl _
      · show Steps _ _ _ (s₁.setTop (mkF m 26 #[.val (.int p0), .val (.int p1), .val (.int p2), .val (.int p3), .val (.int p4), .val (.int 2), .val (.int wd), .unset, .unset, .unset, .unset, .unset, .unset, .unset, .unset] [.int wd])) _
        refine XS.ifNo X0.here hx rfl (hB at_26) rfl ((if0 _ _).trans (feq (hj : ¬ (wd = (0 : Int32)))).1) ?_
        refine X0.ldcInt hx hown (mvT hZ (W 83 rfl)) (g := (mkF m 29 #[.val (.int p0), .val (.int p1), .val (.int p2), .val (.int p3), .val (.int p4), .val (.int 2), .val (.int wd), .unset, .unset, .unset, .unset, .unset, .unset, .unset, .unset] [])) rfl (hB at_29) _ ?_
        refine XS.goto X0.here hx rfl (pc0 := 31) (pc' := 36) rfl (hB at_31) (by decide) (by decide) ?_
        rw [hmk, if_neg hj]
        exact Steps.refl _
    show Steps _ _ _ (s₁.setTop (mkF m 36 #[.val (.int p0), .val (.int p1), .val (.int p2), .val (.int p3), .val (.int p4), .val (.int 2), .val (.int wd), .unset, .unset, .unset, .unset, .unset, .unset, .unset, .unset] [.int mk])) _
    refine XS.istore X0.here hx rfl (hB at_36) rfl (l' := #[.val (.int p0), .val (.int p1), .val (.int p2), .val (.int p3), .val (.int p4), .val (.int 2), .val (.int wd), .val (.int mk), .unset, .unset, .unset, .unset, .unset, .unset, .unset]) rfl ?_
    refine XS.iloadN X0.here hx rfl (hB at_38) rfl ?_
    refine XS.iload X0.here hx rfl (hB at_39) rfl ?_
    refine XS.iand X0.here hx rfl (hB at_41) rfl ?_
    refine XS.i2c X0.here hx rfl (hB at_42) rfl ?_
    show Steps _ _ _ (s₁.setTop (mkF m 43 #[.val (.int p0), .val (.int p1), .val (.int p2), .val (.int p3), .val (.int p4), .val (.int 2), .val (.int wd), .val (.int mk), .unset, .unset, .unset, .unset, .unset, .unset, .unset] [(.int ((p1 &&& mk).toUInt32.toUInt16.toUInt32.toInt32))])) _
    rw [← hq0]
    show Steps _ _ _ (s₁.setTop (mkF m 43 #[.val (.int p0), .val (.int p1), .val (.int p2), .val (.int p3), .val (.int p4), .val (.int 2), .val (.int wd), .val (.int mk), .unset, .unset, .unset, .unset, .unset, .unset, .unset] [.int c0])) _
    refine XS.istore X0.here hx rfl (hB at_43) rfl (l' := #[.val (.int p0), .val (.int p1), .val (.int p2), .val (.int p3), .val (.int p4), .val (.int 2), .val (.int wd), .val (.int mk), .val (.int c0), .unset, .unset, .unset, .unset, .unset, .unset]) rfl ?_
    refine XS.iloadN X0.here hx rfl (hB at_45) rfl ?_
    refine XS.iload X0.here hx rfl (hB at_46) rfl ?_
    refine XS.iand X0.here hx rfl (hB at_48) rfl ?_
    refine XS.i2c X0.here hx rfl (hB at_49) rfl ?_
    show Steps _ _ _ (s₁.setTop (mkF m 50 #[.val (.int p0), .val (.int p1), .val (.int p2), .val (.int p3), .val (.int p4), .val (.int 2), .val (.int wd), .val (.int mk), .val (.int c0), .unset, .unset, .unset, .unset, .unset, .unset] [(.int ((p2 &&& mk).toUInt32.toUInt16.toUInt32.toInt32))])) _
    rw [← hq1]
    show Steps _ _ _ (s₁.setTop (mkF m 50 #[.val (.int p0), .val (.int p1), .val (.int p2), .val (.int p3), .val (.int p4), .val (.int 2), .val (.int wd), .val (.int mk), .val (.int c0), .unset, .unset, .unset, .unset, .unset, .unset] [.int c1])) _
    refine XS.istore X0.here hx rfl (hB at_50) rfl (l' := #[.val (.int p0), .val (.int p1), .val (.int p2), .val (.int p3), .val (.int p4), .val (.int 2), .val (.int wd), .val (.int mk), .val (.int c0), .val (.int c1), .unset, .unset, .unset, .unset, .unset]) rfl ?_
    refine XS.iloadN X0.here hx rfl (hB at_52) rfl ?_
    refine XS.iload X0.here hx rfl (hB at_53) rfl ?_
    refine XS.iand X0.here hx rfl (hB at_55) rfl ?_
    refine XS.i2c X0.here hx rfl (hB at_56) rfl ?_
    show Steps _ _ _ (s₁.setTop (mkF m 57 #[.val (.int p0), .val (.int p1), .val (.int p2), .val (.int p3), .val (.int p4), .val (.int 2), .val (.int wd), .val (.int mk), .val (.int c0), .val (.int c1), .unset, .unset, .unset, .unset, .unset] [(.int ((p3 &&& mk).toUInt32.toUInt16.toUInt32.toInt32))])) _
    rw [← hq2]
    show Steps _ _ _ (s₁.setTop (mkF m 57 #[.val (.int p0), .val (.int p1), .val (.int p2), .val (.int p3), .val (.int p4), .val (.int 2), .val (.int wd), .val (.int mk), .val (.int c0), .val (.int c1), .unset, .unset, .unset, .unset, .unset] [.int c2])) _
    refine XS.istore X0.here hx rfl (hB at_57) rfl (l' := #[.val (.int p0), .val (.int p1), .val (.int p2), .val (.int p3), .val (.int p4), .val (.int 2), .val (.int wd), .val (.int mk), .val (.int c0), .val (.int c1), .val (.int c2), .unset, .unset, .unset, .unset]) rfl ?_
    refine XS.iload X0.here hx rfl (hB at_59) rfl ?_
    refine XS.iload X0.here hx rfl (hB at_61) rfl ?_
    refine XS.iand X0.here hx rfl (hB at_63) rfl ?_
    refine XS.i2c X0.here hx rfl (hB at_64) rfl ?_
    show Steps _ _ _ (s₁.setTop (mkF m 65 #[.val (.int p0), .val (.int p1), .val (.int p2), .val (.int p3), .val (.int p4), .val (.int 2), .val (.int wd), .val (.int mk), .val (.int c0), .val (.int c1), .val (.int c2), .unset, .unset, .unset, .unset] [(.int ((p4 &&& mk).toUInt32.toUInt16.toUInt32.toInt32))])) _
    rw [← hq3]
    show Steps _ _ _ (s₁.setTop (mkF m 65 #[.val (.int p0), .val (.int p1), .val (.int p2), .val (.int p3), .val (.int p4), .val (.int 2), .val (.int wd), .val (.int mk), .val (.int c0), .val (.int c1), .val (.int c2), .unset, .unset, .unset, .unset] [.int c3])) _
    refine XS.istore X0.here hx rfl (hB at_65) rfl (l' := #[.val (.int p0), .val (.int p1), .val (.int p2), .val (.int p3), .val (.int p4), .val (.int 2), .val (.int wd), .val (.int mk), .val (.int c0), .val (.int c1), .val (.int c2), .val (.int c3), .unset, .unset, .unset]) rfl ?_
    refine XS.iload X0.here hx rfl (hB at_67) rfl ?_
    refine st603 _ ?_
    show Steps _ _ _ (T603.setTop (mkF m 71 #[.val (.int p0), .val (.int p1), .val (.int p2), .val (.int p3), .val (.int p4), .val (.int 2), .val (.int wd), .val (.int mk), .val (.int c0), .val (.int c1), .val (.int c2), .val (.int c3), .unset, .unset, .unset] [.ref b603])) _
    refine XS.astore X603.here hx rfl (hB at_71) rfl rfl (l' := #[.val (.int p0), .val (.int p1), .val (.int p2), .val (.int p3), .val (.int p4), .val (.int 2), .val (.int wd), .val (.int mk), .val (.int c0), .val (.int c1), .val (.int c2), .val (.int c3), .val (.ref b603), .unset, .unset]) rfl ?_
    refine XS.iload X603.here hx rfl (hB at_73) rfl ?_
    refine XS.ifNo X603.here hx rfl (hB at_75) rfl ((if0 _ _).trans (tlt (by decide : (0 : Int32) < (2 : Int32))).2.2.2) ?_
    refine XS.aload X603.here hx rfl (hB at_78) rfl rfl ?_
    refine XS.iconst X603.here hx rfl (hB at_80) ?_
    refine XS.iload X603.here hx rfl (hB at_81) rfl ?_
    refine st606 _ ?_
    show Steps _ _ _ (T606.setTop (mkF m 84 #[.val (.int p0), .val (.int p1), .val (.int p2), .val (.int p3), .val (.int p4), .val (.int 2), .val (.int wd), .val (.int mk), .val (.int c0), .val (.int c1), .val (.int c2), .val (.int c3), .val (.ref b603), .unset, .unset] [])) _
    refine XS.iload X606.here hx rfl (hB at_84) rfl ?_
    refine XS.iconst X606.here hx rfl (hB at_86) ?_
    refine XS.icmpNo X606.here hx rfl (hB at_87) rfl (tlt (by decide : (1 : Int32) < (2 : Int32))).2.2.2 ?_
    refine XS.aload X606.here hx rfl (hB at_90) rfl rfl ?_
    refine XS.iconst X606.here hx rfl (hB at_92) ?_
    refine XS.iload X606.here hx rfl (hB at_93) rfl ?_
    refine st609 _ ?_
    show Steps _ _ _ (T609.setTop (mkF m 96 #[.val (.int p0), .val (.int p1), .val (.int p2), .val (.int p3), .val (.int p4), .val (.int 2), .val (.int wd), .val (.int mk), .val (.int c0), .val (.int c1), .val (.int c2), .val (.int c3), .val (.ref b603), .unset, .unset] [])) _
    refine XS.iload X609.here hx rfl (hB at_96) rfl ?_
    refine XS.iconst X609.here hx rfl (hB at_98) ?_
    refine XS.icmpYes X609.here hx rfl (pc0 := 99) (pc' := 108) rfl (hB at_99) rfl (flt (by decide : ¬ ((2 : Int32) < (2 : Int32)))).2.2.2 (by decide) (by decide) ?_
    refine XS.iload X609.here hx rfl (hB at_108) rfl ?_
    refine XS.iconst X609.here hx rfl (hB at_110) ?_
    refine XS.icmpYes X609.here hx rfl (pc0 := 111) (pc' := 120) rfl (hB at_111) rfl (flt (by decide : ¬ ((3 : Int32) < (2 : Int32)))).2.2.2 (by decide) (by decide) ?_
    refine st611 _ ?_
    show Steps _ _ _ (T611.setTop (mkF m 123 #[.val (.int p0), .val (.int p1), .val (.int p2), .val (.int p3), .val (.int p4), .val (.int 2), .val (.int wd), .val (.int mk), .val (.int c0), .val (.int c1), .val (.int c2), .val (.int c3), .val (.ref b603), .unset, .unset] [.ref b611])) _
    refine XS.dup X611.here hx rfl (hB at_123) rfl rfl ?_
    refine XS.aload X611.here hx rfl (hB at_124) rfl rfl ?_
    refine st613.trans ?_
    show Steps _ _ _ (T613.setTop (mkF m 129 #[.val (.int p0), .val (.int p1), .val (.int p2), .val (.int p3), .val (.int p4), .val (.int 2), .val (.int wd), .val (.int mk), .val (.int c0), .val (.int c1), .val (.int c2), .val (.int c3), .val (.ref b603), .unset, .unset] [.ref b611])) _
    refine XS.astore X613.here hx rfl (hB at_129) rfl rfl (l' := #[.val (.int p0), .val (.int p1), .val (.int p2), .val (.int p3), .val (.int p4), .val (.int 2), .val (.int wd), .val (.int mk), .val (.int c0), .val (.int c1), .val (.int c2), .val (.int c3), .val (.ref b603), .val (.ref b611), .unset]) rfl ?_
    show Steps _ _ _ (T613.setTop (mkF m 131 #[.val (.int p0), .val (.int p1), .val (.int p2), .val (.int p3), .val (.int p4), .val (.int 2), .val (.int wd), .val (.int mk), .val (.int c0), .val (.int c1), .val (.int c2), .val (.int c3), .val (.ref b603), .val (.ref b611), .unset] [])) _
    refine st616 _ ?_
    show Steps _ _ _ (T616.setTop (mkF m 192 #[.val (.int p0), .val (.int p1), .val (.int p2), .val (.int p3), .val (.int p4), .val (.int 2), .val (.int wd), .val (.int mk), .val (.int c0), .val (.int c1), .val (.int c2), .val (.int c3), .val (.ref b603), .val (.ref b611), .unset] [(.int (own_valid ([c0, c1] : List Int32)))])) _
    refine XS.istore X616.here hx rfl (hB at_192) rfl (l' := #[.val (.int p0), .val (.int p1), .val (.int p2), .val (.int p3), .val (.int p4), .val (.int 2), .val (.int wd), .val (.int mk), .val (.int c0), .val (.int c1), .val (.int c2), .val (.int c3), .val (.ref b603), .val (.ref b611), .val (.int (own_valid ([c0, c1] : List Int32)))]) rfl ?_
    refine XS.aload X616.here hx rfl (hB at_194) rfl rfl ?_
    refine st618 _ ?_
    show Steps _ _ _ (T618.setTop (mkF m 199 #[.val (.int p0), .val (.int p1), .val (.int p2), .val (.int p3), .val (.int p4), .val (.int 2), .val (.int wd), .val (.int mk), .val (.int c0), .val (.int c1), .val (.int c2), .val (.int c3), .val (.ref b603), .val (.ref b611), .val (.int (own_valid ([c0, c1] : List Int32)))] [(.int (own_valid ([c0, c1] : List Int32)))])) _
    refine XS.iload X618.here hx rfl (hB at_199) rfl ?_
    refine XS.icmpNo X618.here hx rfl (hB at_201) rfl (teq (rfl : (own_valid ([c0, c1] : List Int32)) = (own_valid ([c0, c1] : List Int32)))).2 ?_
    refine XS.iconst X618.here hx rfl (hB at_204) ?_
    refine XS.goto X618.here hx rfl (pc0 := 205) (pc' := 209) rfl (hB at_205) (by decide) (by decide) ?_
    exact retN X618 hx (t := .boolean) Bd.returns (by simp) (hB at_209) hr
  · show Q0 Z G1 fm p0 p1 p2 p3 p4 h0 n0 _ T618.heap _
    exact ⟨rfl, N618, K0_623⟩
  · show CHr Z own_EL s.vm s.heap T618.vm T618.heap
    rw [hh]
    exact hFin
theorem rm0_3 (l : Launch) (Z : State) (a0 : Array Value) (G1 : Int32) (fm : Value) (hG : Glob Z a0 G1 fm) (ws : List Jvm.Cond) (p0 : Int32) (p1 : Int32) (p2 : Int32) (p3 : Int32) (p4 : Int32) (h0 : Heap) (n0 : Nat) (Z0 : n0 ≤ h0.size) (X00 : Old Z n0 h0) (hn : ((p0 &&& (2147483647 : Int32)) % (5 : Int32)) = (3 : Int32)) :
    MetFree l x (head1 (Jvm.Cond.code x code maxLocals ret :: ws) room_1) (fun a U => a = #[.int p0, .int p1, .int p2, .int p3, .int p4] ∧ Z.Warmed39 U.vm ∧ U.heap = h0 ∧ CHv Z own_EL U.vm h0) (fun _ _ _ _ _ => True) (fun _ U o U' => ∃ v L, o = .returned v ∧ Q0 Z G1 fm p0 p1 p2 p3 p4 h0 n0 v U'.heap L ∧ CHr Z own_EL U.vm U.heap U'.vm U'.heap ∧ ReturnedEndW U o U' L room_1.cells room_1.slots) := by
  obtain ⟨hw, O_cs, P_cs, O_as, O_hi, O_lo, O_fm, R_fm⟩ := id hG
  have W := @own_W _ _ hw
  refine MetFree.of_bodySF (plainFor_of_name pn_com_example_label_lattice_labellattice_NamesIsValidPinLaw) hisR ?_
  intro p e s m args below meth c s₁ Bd hml0 hP hK
  obtain ⟨rfl, hZ, hh, hCH⟩ := hP
  have hx := Bd.exec
  have hby := Bd.bytes
  have hB := @hb _ _ hby
  have hml : c.maxLocals = 15 := hml0
  have hown : s.vm.findClass "com/example/label_lattice/labellattice/NamesIsValidPinLaw" = some m.cls := findClass_of_methodNamed Bd.named
  have hnm := (name_of_methodNamed Bd.named Bd.method).1
  have X0 : Stand p l e room_1 (s.setVm s.vm) m #[.int p0, .int p1, .int p2, .int p3, .int p4] below meth c s₁ [] 0 0 := Stand.of_body Bd
  have e0 : s₁.heap = h0 := by rw [← hh, Bd.state]; rfl
  have hS0 : s.Since s.vm h0.size := (State.WarmedH.refl s).since _
  have hk0 : h0.size ≤ h0.size := Nat.le_refl _
  have R0 : CHr Z own_EL s.vm h0 s.vm h0 := CHr.refl hCH
  have hEL := own_ew hw
  have N0 := Fr.nil n0
  have pre0 : ∀ t, Steps p.tables e below (s₁.setTop (mkF m 0 #[.val (.int p0), .val (.int p1), .val (.int p2), .val (.int p3), .val (.int p4), .unset, .unset, .unset, .unset, .unset, .unset, .unset, .unset, .unset, .unset] [])) t → Steps p.tables e below (s₁.setTop (entryFrame m #[.int p0, .int p1, .int p2, .int p3, .int p4] maxLocals)) t := fun t kk_ => castTop (ef_code_IIIII m p0 p1 p2 p3 p4) kk_
  obtain ⟨wd, hwd⟩ : ∃ z : Int32, z = (if (((p0.toUInt32 >>> ((8 : Int32) &&& 31).toUInt32).toInt32) &&& (1 : Int32)) = (0 : Int32) then (0 : Int32) else (1 : Int32)) := ⟨_, rfl⟩
  obtain ⟨mk, hmk⟩ : ∃ z : Int32, z = (if wd = (0 : Int32) then (127 : Int32) else (65535 : Int32)) := ⟨_, rfl⟩
  obtain ⟨c0, hq0⟩ : ∃ z : Int32, z = ((p1 &&& mk).toUInt32.toUInt16.toUInt32.toInt32) := ⟨_, rfl⟩
  have hu0 : own_u16 c0 := by rw [hq0]; exact own_i2c _
  obtain ⟨c1, hq1⟩ : ∃ z : Int32, z = ((p2 &&& mk).toUInt32.toUInt16.toUInt32.toInt32) := ⟨_, rfl⟩
  have hu1 : own_u16 c1 := by rw [hq1]; exact own_i2c _
  obtain ⟨c2, hq2⟩ : ∃ z : Int32, z = ((p3 &&& mk).toUInt32.toUInt16.toUInt32.toInt32) := ⟨_, rfl⟩
  have hu2 : own_u16 c2 := by rw [hq2]; exact own_i2c _
  obtain ⟨c3, hq3⟩ : ∃ z : Int32, z = ((p4 &&& mk).toUInt32.toUInt16.toUInt32.toInt32) := ⟨_, rfl⟩
  have hu3 : own_u16 c3 := by rw [hq3]; exact own_i2c _
  obtain ⟨T624, h624, k624, X624, e624, E624, A624, st624⟩ := newP X0 hx hZ (W 1 rfl) e0 (g := (mkF m 69 #[.val (.int p0), .val (.int p1), .val (.int p2), .val (.int p3), .val (.int p4), .val (.int 3), .val (.int wd), .val (.int mk), .val (.int c0), .val (.int c1), .val (.int c2), .val (.int c3), .unset, .unset, .unset] [.int 3])) rfl (hB at_69) rfl (by decide) (cap := 3) (by decide) (by decide) (by decide) (by decide)
  obtain ⟨b624, g624⟩ : ∃ z, z = h0.size := ⟨_, rfl⟩
  rw [← g624] at A624 st624
  have Z625 : n0 ≤ h624.size := Nat.le_trans Z0 E624.1
  have K0_625 : Keep h0 h624 [] := (Keep.refl h0 []).ext E624
  have O625 : Old Z n0 h624 := X00.ext E624
  have R625 : CHr Z own_EL s.vm h0 s.vm h624 := R0.trans (CHr.ext E624 R0.1)
  have hk625 : h0.size ≤ h624.size := Nat.le_trans hk0 E624.1
  have lo_b624 : h0.size ≤ b624 := Nat.le_of_eq g624.symm
  have g_b624 : n0 ≤ b624 := Nat.le_trans Z0 lo_b624
  have l0_b624 : h0.size ≤ b624 := Nat.le_trans (Keep.refl h0 []).1 lo_b624
  have V_b624 : Arv Z h624 b624 k624 .char (3 : Int32) [.int 0, .int 0, .int 0] (.int 0) := (Arv.new A624 (by decide)).pad (pad_rep [] (.int 0) 3)
  obtain ⟨clq626, Arq626, qaq626, Sq626, Nq626, Hq626, Gq626⟩ := id V_b624
  have hinq626 := inb_of (j := (0 : Int32)) Sq626 ⟨by decide, by decide⟩
  obtain ⟨T627, h627, X627, e627, W627, st627⟩ := stC X624 hx hZ e624 Arq626 (j := (0 : Int32)) hinq626 (g := (mkF m 83 #[.val (.int p0), .val (.int p1), .val (.int p2), .val (.int p3), .val (.int p4), .val (.int 3), .val (.int wd), .val (.int mk), .val (.int c0), .val (.int c1), .val (.int c2), .val (.int c3), .val (.ref b624), .unset, .unset] [.int c0, .int 0, .ref b624])) rfl rfl (hB at_83)
  have V627 : Arv Z h627 b624 k624 .char (3 : Int32) [(.int (nar .char c0)), .int 0, .int 0] (.int 0) := Arv.set Arq626 qaq626 Sq626 Nq626 Hq626 Gq626 (fits_nar_char _) W627 0 rfl (own_ble rfl)
  rw [own_n16 hu0] at V627
  have Z628 : n0 ≤ h627.size := Nat.le_trans Z625 (Keep.of_wr W627).1
  have K0_628 : Keep h0 h627 [] := K0_625.wr W627 (Or.inr l0_b624)
  have O628 : Old Z n0 h627 := O625.wr W627 g_b624
  have R628 : CHr Z own_EL s.vm h0 s.vm h627 := R625.trans (CHr.wr W627 (Safe.arv hZ.alike V_b624 (by decide)) R625.1)
  have hk628 : h0.size ≤ h627.size := Nat.le_trans hk625 (Keep.of_wr W627).1
  have N627 := Fr.snoc X627 N0 g_b624
  obtain ⟨clq629, Arq629, qaq629, Sq629, Nq629, Hq629, Gq629⟩ := id V627
  have hinq629 := inb_of (j := (1 : Int32)) Sq629 ⟨by decide, by decide⟩
  obtain ⟨T630, h630, X630, e630, W630, st630⟩ := stC X627 hx hZ e627 Arq629 (j := (1 : Int32)) hinq629 (g := (mkF m 95 #[.val (.int p0), .val (.int p1), .val (.int p2), .val (.int p3), .val (.int p4), .val (.int 3), .val (.int wd), .val (.int mk), .val (.int c0), .val (.int c1), .val (.int c2), .val (.int c3), .val (.ref b624), .unset, .unset] [.int c1, .int 1, .ref b624])) rfl rfl (hB at_95)
  have V630 : Arv Z h630 b624 k624 .char (3 : Int32) [.int c0, (.int (nar .char c1)), .int 0] (.int 0) := Arv.set Arq629 qaq629 Sq629 Nq629 Hq629 Gq629 (fits_nar_char _) W630 1 rfl (own_ble rfl)
  rw [own_n16 hu1] at V630
  have Z631 : n0 ≤ h630.size := Nat.le_trans Z628 (Keep.of_wr W630).1
  have K0_631 : Keep h0 h630 [] := K0_628.wr W630 (Or.inr l0_b624)
  have O631 : Old Z n0 h630 := O628.wr W630 g_b624
  have R631 : CHr Z own_EL s.vm h0 s.vm h630 := R628.trans (CHr.wr W630 (Safe.arv hZ.alike V627 (by decide)) R628.1)
  have hk631 : h0.size ≤ h630.size := Nat.le_trans hk628 (Keep.of_wr W630).1
  have N630 := Fr.snoc X630 N627 g_b624
  obtain ⟨clq632, Arq632, qaq632, Sq632, Nq632, Hq632, Gq632⟩ := id V630
  have hinq632 := inb_of (j := (2 : Int32)) Sq632 ⟨by decide, by decide⟩
  obtain ⟨T633, h633, X633, e633, W633, st633⟩ := stC X630 hx hZ e630 Arq632 (j := (2 : Int32)) hinq632 (g := (mkF m 107 #[.val (.int p0), .val (.int p1), .val (.int p2), .val (.int p3), .val (.int p4), .val (.int 3), .val (.int wd), .val (.int mk), .val (.int c0), .val (.int c1), .val (.int c2), .val (.int c3), .val (.ref b624), .unset, .unset] [.int c2, .int 2, .ref b624])) rfl rfl (hB at_107)
  have V633 : Arv Z h633 b624 k624 .char (3 : Int32) [.int c0, .int c1, (.int (nar .char c2))] (.int 0) := Arv.set Arq632 qaq632 Sq632 Nq632 Hq632 Gq632 (fits_nar_char _) W633 2 rfl (own_ble rfl)
  rw [own_n16 hu2] at V633
  have Z634 : n0 ≤ h633.size := Nat.le_trans Z631 (Keep.of_wr W633).1
  have K0_634 : Keep h0 h633 [] := K0_631.wr W633 (Or.inr l0_b624)
  have O634 : Old Z n0 h633 := O631.wr W633 g_b624
  have R634 : CHr Z own_EL s.vm h0 s.vm h633 := R631.trans (CHr.wr W633 (Safe.arv hZ.alike V630 (by decide)) R631.1)
  have hk634 : h0.size ≤ h633.size := Nat.le_trans hk631 (Keep.of_wr W633).1
  have N633 := Fr.snoc X633 N630 g_b624
  obtain ⟨T635, h635, X635, e635, E635, A635, D635, -, st635⟩ := newO X633 hx hZ hown (W 2 rfl) (W 3 rfl) (W 4 rfl) e633 (g := (mkF m 120 #[.val (.int p0), .val (.int p1), .val (.int p2), .val (.int p3), .val (.int p4), .val (.int 3), .val (.int wd), .val (.int mk), .val (.int c0), .val (.int c1), .val (.int c2), .val (.int c3), .val (.ref b624), .unset, .unset] [])) rfl (hB at_120) (by decide) (by decide)
  obtain ⟨b635, g635⟩ : ∃ z, z = h633.size := ⟨_, rfl⟩
  rw [← g635] at A635 D635 st635
  have Z636 : n0 ≤ h635.size := Nat.le_trans Z634 E635.1
  have K0_636 : Keep h0 h635 [] := K0_634.ext E635
  have O636 : Old Z n0 h635 := O634.ext E635
  have R636 : CHr Z own_EL s.vm h0 s.vm h635 := R634.trans (CHr.ext E635 R634.1)
  have hk636 : h0.size ≤ h635.size := Nat.le_trans hk634 E635.1
  have lo_b635 : h633.size ≤ b635 := Nat.le_of_eq g635.symm
  have g_b635 : n0 ≤ b635 := Nat.le_trans Z634 lo_b635
  have l0_b635 : h0.size ≤ b635 := Nat.le_trans K0_634.1 lo_b635
  have F_value_b635 : Fld Z h635 b635 "java/lang/String" "value" "[B" .null := D635 (Or.inr (W 17 rfl)) (ty := (.array .byte)) (by decide)
  have F_coder_b635 : Fld Z h635 b635 "java/lang/String" "coder" "B" (.int 0) := D635 (Or.inr (W 18 rfl)) (ty := .byte) (by decide)
  have f638 := (V633.ext E635)
  -- pc 126: java/lang/String.<init>
  obtain ⟨_, _, ⟨T637, L637, k637, n637⟩, -, X637, ⟨Lc637, hQ637, l637, y637, z637⟩, st637⟩ := X635.specialBack hx (y := y19) rfl hown (mvT hZ (W 5 rfl)) (mvT hZ (W 6 rfl)) (mvT hZ (W 7 rfl)) (by decide) (backOf (W := 1) (rmini3 l Z a0 G1 fm hG [] b635 b624 k624 c0 c1 c2 h635 n0 Z636 O636 A635 g_b635 F_value_b635 F_coder_b635 f638 (Nat.ne_of_lt (Nat.lt_of_lt_of_le V633.lt lo_b635)) (own_all3 hu0 hu1 hu2)) hZ (W 7 rfl) (W 4 rfl) (by decide) (by decide)) (g := (mkF m 126 #[.val (.int p0), .val (.int p1), .val (.int p2), .val (.int p3), .val (.int p4), .val (.int 3), .val (.int wd), .val (.int mk), .val (.int c0), .val (.int c1), .val (.int c2), .val (.int c3), .val (.ref b624), .unset, .unset] [.ref b624, .ref b635, .ref b635])) rfl (by rw [hml]; rfl) (Steps.refl _) (a := b635) (argsL := [.ref b624]) (rest := [.ref b635]) (lenOf pd___C_V rfl) rfl (by show 2 * 0 + _ ≤ _; exact Nat.le_of_eq rfl) (hB at_126) (fun _ _ => ⟨rfl, e635, (by decide : 2 + 2 ≤ _), (by decide : 7 + 9 ≤ _)⟩)
  dsimp only [Pt.U, Pt.locs, Pt.cells, Pt.slots] at X637 l637 y637 z637 st637 hQ637
  subst l637 y637 z637
  obtain ⟨t_637, kb_637, cd_637, z_637, vs_637, rfl, N637q, K637, f637_0, f637_1, f637_2, f637_3, f637_4⟩ := hQ637
  have N637 := Fr.app N633 N637q
  have Z639 : n0 ≤ T637.heap.size := Nat.le_trans Z636 K637.1
  have K0_639 : Keep h0 T637.heap [] := K0_636.trans K637 (allS (Or.inr l0_b635) all0)
  have O639 : Old Z n0 T637.heap := O636.keep K637 (allS g_b635 all0)
  have R639 : CHr Z own_EL s.vm h0 s.vm T637.heap := R636.trans (CHr.keep K637 (sfS (own_safeS hZ.alike A635 F_value_b635) sf0) R636.1)
  have hk639 : h0.size ≤ T637.heap.size := Nat.le_trans hk636 K637.1
  obtain ⟨T640, L640, X640, N640, K640, st640⟩ := sgexp Z a0 G1 fm hG p0 p1 p2 p3 p4 (3 : Int32) wd mk c0 c1 c2 c3 b624 b635 ([c0, c1, c2] : List Int32) 4 16 T637.heap n0 Z639 O639 (Or.inr (Or.inr (Or.inr (Or.inl ⟨rfl, rfl⟩)))) (by decide) (by decide) X637 hx hZ hby hml hown rfl N637
  have Z641 : n0 ≤ T640.heap.size := Nat.le_trans Z639 K640.1
  have K0_641 : Keep h0 T640.heap [] := K0_639.trans K640 all0
  have O641 : Old Z n0 T640.heap := O639.keep K640 all0
  have R641 : CHr Z own_EL s.vm h0 s.vm T640.heap := R639.trans (CHr.keep K640 sf0 R639.1)
  have hk641 : h0.size ≤ T640.heap.size := Nat.le_trans hk639 K640.1
  have f643 := (f637_0.keep K640)
  have f644 := (f637_1.keep K640 nin0)
  have f645 := (f637_2.keep K640 nin0)
  have f646 := (f637_3.keep K640 nin0)
  -- pc 196: com/example/label_lattice/labellattice/Names.isValid
  obtain ⟨_, _, ⟨T642, L642, k642, n642⟩, -, X642, ⟨Lc642, hQ642, l642, y642, z642⟩, st642⟩ := Jvm.LawKit.callS X640 hx (y := y24) hown (mvT hZ (W 23 rfl)) (mvT hZ (W 24 rfl)) (mvT hZ (W 25 rfl)) (mvT hZ (W 26 rfl)) (by decide) (backOf (W := 0) (rmisv l Z a0 G1 fm hG [] b635 t_637 kb_637 cd_637 z_637 vs_637 ([c0, c1, c2] : List Int32) (3 : Int32) T640.heap n0 Z641 O641 f643 f644 f645 f646 f637_4 (own_ble rfl) (own_all3 hu0 hu1 hu2) rfl) hZ (W 26 rfl) (W 25 rfl) (by decide) (by decide)) (g := (mkF m 196 #[.val (.int p0), .val (.int p1), .val (.int p2), .val (.int p3), .val (.int p4), .val (.int 3), .val (.int wd), .val (.int mk), .val (.int c0), .val (.int c1), .val (.int c2), .val (.int c3), .val (.ref b624), .val (.ref b635), .val (.int (own_valid ([c0, c1, c2] : List Int32)))] [.ref b635])) rfl (by rw [hml]; rfl) (argsL := [.ref b635]) (rest := []) (lenOf pd__Ljava_lang_String__Z rfl) rfl (by show 2 * 0 + _ ≤ _; exact Nat.le_of_eq rfl) (hB at_196) (fun _ _ => ⟨rfl, rfl, (by decide : 4 + 0 ≤ _), (by decide : 16 + 0 ≤ _)⟩)
  dsimp only [Pt.U, Pt.locs, Pt.cells, Pt.slots] at X642 l642 y642 z642 st642 hQ642
  subst l642 y642 z642
  obtain ⟨rfl, N642q, K642⟩ := hQ642
  have N642 := Fr.app N640 N642q
  have Z647 : n0 ≤ T642.heap.size := Nat.le_trans Z641 K642.1
  have K0_647 : Keep h0 T642.heap [] := K0_641.trans K642 all0
  have O647 : Old Z n0 T642.heap := O641.keep K642 all0
  have R647 : CHr Z own_EL s.vm h0 s.vm T642.heap := R641.trans (CHr.keep K642 sf0 R641.1)
  have hk647 : h0.size ≤ T642.heap.size := Nat.le_trans hk641 K642.1
  obtain ⟨fs, hr, hrun, hended, hend⟩ := Jvm.Stand.leaveW (v := some (.int 1)) X642 hS0 hk647 (fun h => by rw [Bd.returns] at h; cases h)
  have hFin := R647.trans (CHv.at X642 hZ hEL R647.1)
  refine ⟨_, _, pre0 _ ?_, hrun, hended, _, _, rfl, ?_, ?_, own_mono hend (own_ble rfl) (own_ble rfl)⟩
  · show Steps _ _ _ (s₁.setTop (mkF m 0 #[.val (.int p0), .val (.int p1), .val (.int p2), .val (.int p3), .val (.int p4), .unset, .unset, .unset, .unset, .unset, .unset, .unset, .unset, .unset, .unset] [])) _
    refine XS.iloadN X0.here hx rfl (hB at_0) rfl ?_
    refine X0.ldcInt hx hown (mvT hZ (W 0 rfl)) (g := (mkF m 1 #[.val (.int p0), .val (.int p1), .val (.int p2), .val (.int p3), .val (.int p4), .unset, .unset, .unset, .unset, .unset, .unset, .unset, .unset, .unset, .unset] [.int p0])) rfl (hB at_1) _ ?_
    refine XS.iand X0.here hx rfl (hB at_3) rfl ?_
    refine XS.iconst X0.here hx rfl (hB at_4) ?_
    refine iremM (g := (mkF m 5 #[.val (.int p0), .val (.int p1), .val (.int p2), .val (.int p3), .val (.int p4), .unset, .unset, .unset, .unset, .unset, .unset, .unset, .unset, .unset, .unset] [.int 5, (.int (p0 &&& (2147483647 : Int32)))])) X0 hx rfl (hB at_5) rfl (by decide) ?_
    show Steps _ _ _ (s₁.setTop (mkF m 6 #[.val (.int p0), .val (.int p1), .val (.int p2), .val (.int p3), .val (.int p4), .unset, .unset, .unset, .unset, .unset, .unset, .unset, .unset, .unset, .unset] [(.int ((p0 &&& (2147483647 : Int32)) % (5 : Int32)))])) _
    rw [hn]
    show Steps _ _ _ (s₁.setTop (mkF m 6 #[.val (.int p0), .val (.int p1), .val (.int p2), .val (.int p3), .val (.int p4), .unset, .unset, .unset, .unset, .unset, .unset, .unset, .unset, .unset, .unset] [.int 3])) _
    refine XS.istore X0.here hx rfl (hB at_6) rfl (l' := #[.val (.int p0), .val (.int p1), .val (.int p2), .val (.int p3), .val (.int p4), .val (.int 3), .unset, .unset, .unset, .unset, .unset, .unset, .unset, .unset, .unset]) rfl ?_
    refine XS.iloadN X0.here hx rfl (hB at_8) rfl ?_
    refine XS.bipush X0.here hx rfl (hB at_9) ?_
    refine XS.iushr X0.here hx rfl (hB at_11) rfl ?_
    refine XS.iconst X0.here hx rfl (hB at_12) ?_
    refine XS.iand X0.here hx rfl (hB at_13) rfl ?_
    show Steps _ _ _ (s₁.setTop (mkF m 14 #[.val (.int p0), .val (.int p1), .val (.int p2), .val (.int p3), .val (.int p4), .val (.int 3), .unset, .unset, .unset, .unset, .unset, .unset, .unset, .unset, .unset] [(.int (((p0.toUInt32 >>> ((8 : Int32) &&& 31).toUInt32).toInt32) &&& (1 : Int32)))])) _
    refine Steps.trans (?_ : Steps p.tables e below _ (s₁.setTop (mkF m 22 #[.val (.int p0), .val (.int p1), .val (.int p2), .val (.int p3), .val (.int p4), .val (.int 3), .unset, .unset, .unset, .unset, .unset, .unset, .unset, .unset, .unset] [.int wd]))) ?_
    · by_cases hj : (((p0.toUInt32 >>> ((8 : Int32) &&& 31).toUInt32).toInt32) &&& (1 : Int32)) = (0 : Int32)
      · show Steps _ _ _ (s₁.setTop (mkF m 14 #[.val (.int p0), .val (.int p1), .val (.int p2), .val (.int p3), .val (.int p4), .val (.int 3), .unset, .unset, .unset, .unset, .unset, .unset, .unset, .unset, .unset] [(.int (((p0.toUInt32 >>> ((8 : Int32) &&& 31).toUInt32).toInt32) &&& (1 : Int32)))])) _
        refine XS.ifYes X0.here hx rfl (pc0 := 14) (pc' := 21) rfl (hB at_14) rfl ((if0 _ _).trans (teq (hj : (((p0.toUInt32 >>> ((8 : Int32) &&& 31).toUInt32).toInt32) &&& (1 : Int32)) = (0 : Int32))).1) (by decide) (by decide) ?_
        refine XS.iconst X0.here hx rfl (hB at_21) ?_
        rw [hwd, if_pos hj]
        exact Steps.refl _
      · show Steps _ _ _ (s₁.setTop (mkF m 14 #[.val (.int p0), .val (.int p1), .val (.int p2), .val (.int p3), .val (.int p4), .val (.int 3), .unset, .unset, .unset, .unset, .unset, .unset, .unset, .unset, .unset] [(.int (((p0.toUInt32 >>> ((8 : Int32) &&& 31).toUInt32).toInt32) &&& (1 : Int32)))])) _
        refine XS.ifNo X0.here hx rfl (hB at_14) rfl ((if0 _ _).trans (feq (hj : ¬ ((((p0.toUInt32 >>> ((8 : Int32) &&& 31).toUInt32).toInt32) &&& (1 : Int32)) = (0 : Int32)))).1) ?_
        refine XS.iconst X0.here hx rfl (hB at_17) ?_
        refine XS.goto X0.here hx rfl (pc0 := 18) (pc' := 22) rfl (hB at_18) (by decide) (by decide) ?_
        rw [hwd, if_neg hj]
        exact Steps.refl _
    show Steps _ _ _ (s₁.setTop (mkF m 22 #[.val (.int p0), .val (.int p1), .val (.int p2), .val (.int p3), .val (.int p4), .val (.int 3), .unset, .unset, .unset, .unset, .unset, .unset, .unset, .unset, .unset] [.int wd])) _
    refine XS.istore X0.here hx rfl (hB at_22) rfl (l' := #[.val (.int p0), .val (.int p1), .val (.int p2), .val (.int p3), .val (.int p4), .val (.int 3), .val (.int wd), .unset, .unset, .unset, .unset, .unset, .unset, .unset, .unset]) rfl ?_
    refine XS.iload X0.here hx rfl (hB at_24) rfl ?_
    show Steps _ _ _ (s₁.setTop (mkF m 26 #[.val (.int p0), .val (.int p1), .val (.int p2), .val (.int p3), .val (.int p4), .val (.int 3), .val (.int wd), .unset, .unset, .unset, .unset, .unset, .unset, .unset, .unset] [.int wd])) _
    refine Steps.trans (?_ : Steps p.tables e below _ (s₁.setTop (mkF m 36 #[.val (.int p0), .val (.int p1), .val (.int p2), .val (.int p3), .val (.int p4), .val (.int 3), .val (.int wd), .unset, .unset, .unset, .unset, .unset, .unset, .unset, .unset] [.int mk]))) ?_
    · by_cases hj : wd = (0 : Int32)
      · show Steps _ _ _ (s₁.setTop (mkF m 26 #[.val (.int p0), .val (.int p1), .val (.int p2), .val (.int p3), .val (.int p4), .val (.int 3), .val (.int wd), .unset, .unset, .unset, .unset, .unset, .unset, .unset, .unset] [.int wd])) _
        refine XS.ifYes X0.here hx rfl (pc0 := 26) (pc' := 34) rfl (hB at_26) rfl ((if0 _ _).trans (teq (hj : wd = (0 : Int32))).1) (by decide) (by decide) ?_
        refine XS.bipush X0.here hx rfl (hB at_34) ?_
        rw [hmk, if_pos hj]
        exact Steps.refl _
      · show Steps _ _ _ (s₁.setTop (mkF m 26 #[.val (.int p0), .val (.int p1), .val (.int p2), .val (.int p3), .val (.int p4), .val (.int 3), .val (.int wd), .unset, .unset, .unset, .unset, .unset, .unset, .unset, .unset] [.int wd])) _
        refine XS.ifNo X0.here hx rfl (hB at_26) rfl ((if0 _ _).trans (feq (hj : ¬ (wd = (0 : Int32)))).1) ?_
        refine X0.ldcInt hx hown (mvT hZ (W 83 rfl)) (g := (mkF m 29 #[.val (.int p0), .val (.int p1), .val (.int p2), .val (.int p3), .val (.int p4), .val (.int 3), .val (.int wd), .unset, .unset, .unset, .unset, .unset, .unset, .unset, .unset] [])) rfl (hB at_29) _ ?_
        refine XS.goto X0.here hx rfl (pc0 := 31) (pc' := 36) rfl (hB at_31) (by decide) (by decide) ?_
        rw [hmk, if_neg hj]
        exact Steps.refl _
    show Steps _ _ _ (s₁.setTop (mkF m 36 #[.val (.int p0), .val (.int p1), .val (.int p2), .val (.int p3), .val (.int p4), .val (.int 3), .val (.int wd), .unset, .unset, .unset, .unset, .unset, .unset, .unset, .unset] [.int mk])) _
    refine XS.istore X0.here hx rfl (hB at_36) rfl (l' := #[.val (.int p0), .val (.int p1), .val (.int p2), .val (.int p3), .val (.int p4), .val (.int 3), .val (.int wd), .val (.int mk), .unset, .unset, .unset, .unset, .unset, .unset, .unset]) rfl ?_
    refine XS.iloadN X0.here hx rfl (hB at_38) rfl ?_
    refine XS.iload X0.here hx rfl (hB at_39) rfl ?_
    refine XS.iand X0.here hx rfl (hB at_41) rfl ?_
    refine XS.i2c X0.here hx rfl (hB at_42) rfl ?_
    show Steps _ _ _ (s₁.setTop (mkF m 43 #[.val (.int p0), .val (.int p1), .val (.int p2), .val (.int p3), .val (.int p4), .val (.int 3), .val (.int wd), .val (.int mk), .unset, .unset, .unset, .unset, .unset, .unset, .unset] [(.int ((p1 &&& mk).toUInt32.toUInt16.toUInt32.toInt32))])) _
    rw [← hq0]
    show Steps _ _ _ (s₁.setTop (mkF m 43 #[.val (.int p0), .val (.int p1), .val (.int p2), .val (.int p3), .val (.int p4), .val (.int 3), .val (.int wd), .val (.int mk), .unset, .unset, .unset, .unset, .unset, .unset, .unset] [.int c0])) _
    refine XS.istore X0.here hx rfl (hB at_43) rfl (l' := #[.val (.int p0), .val (.int p1), .val (.int p2), .val (.int p3), .val (.int p4), .val (.int 3), .val (.int wd), .val (.int mk), .val (.int c0), .unset, .unset, .unset, .unset, .unset, .unset]) rfl ?_
    refine XS.iloadN X0.here hx rfl (hB at_45) rfl ?_
    refine XS.iload X0.here hx rfl (hB at_46) rfl ?_
    refine XS.iand X0.here hx rfl (hB at_48) rfl ?_
    refine XS.i2c X0.here hx rfl (hB at_49) rfl ?_
    show Steps _ _ _ (s₁.setTop (mkF m 50 #[.val (.int p0), .val (.int p1), .val (.int p2), .val (.int p3), .val (.int p4), .val (.int 3), .val (.int wd), .val (.int mk), .val (.int c0), .unset, .unset, .unset, .unset, .unset, .unset] [(.int ((p2 &&& mk).toUInt32.toUInt16.toUInt32.toInt32))])) _
    rw [← hq1]
    show Steps _ _ _ (s₁.setTop (mkF m 50 #[.val (.int p0), .val (.int p1), .val (.int p2), .val (.int p3), .val (.int p4), .val (.int 3), .val (.int wd), .val (.int mk), .val (.int c0), .unset, .unset, .unset, .unset, .unset, .unset] [.int c1])) _
    refine XS.istore X0.here hx rfl (hB at_50) rfl (l' := #[.val (.int p0), .val (.int p1), .val (.int p2), .val (.int p3), .val (.int p4), .val (.int 3), .val (.int wd), .val (.int mk), .val (.int c0), .val (.int c1), .unset, .unset, .unset, .unset, .unset]) rfl ?_
    refine XS.iloadN X0.here hx rfl (hB at_52) rfl ?_
    refine XS.iload X0.here hx rfl (hB at_53) rfl ?_
    refine XS.iand X0.here hx rfl (hB at_55) rfl ?_
    refine XS.i2c X0.here hx rfl (hB at_56) rfl ?_
    show Steps _ _ _ (s₁.setTop (mkF m 57 #[.val (.int p0), .val (.int p1), .val (.int p2), .val (.int p3), .val (.int p4), .val (.int 3), .val (.int wd), .val (.int mk), .val (.int c0), .val (.int c1), .unset, .unset, .unset, .unset, .unset] [(.int ((p3 &&& mk).toUInt32.toUInt16.toUInt32.toInt32))])) _
    rw [← hq2]
    show Steps _ _ _ (s₁.setTop (mkF m 57 #[.val (.int p0), .val (.int p1), .val (.int p2), .val (.int p3), .val (.int p4), .val (.int 3), .val (.int wd), .val (.int mk), .val (.int c0), .val (.int c1), .unset, .unset, .unset, .unset, .unset] [.int c2])) _
    refine XS.istore X0.here hx rfl (hB at_57) rfl (l' := #[.val (.int p0), .val (.int p1), .val (.int p2), .val (.int p3), .val (.int p4), .val (.int 3), .val (.int wd), .val (.int mk), .val (.int c0), .val (.int c1), .val (.int c2), .unset, .unset, .unset, .unset]) rfl ?_
    refine XS.iload X0.here hx rfl (hB at_59) rfl ?_
    refine XS.iload X0.here hx rfl (hB at_61) rfl ?_
    refine XS.iand X0.here hx rfl (hB at_63) rfl ?_
    refine XS.i2c X0.here hx rfl (hB at_64) rfl ?_
    show Steps _ _ _ (s₁.setTop (mkF m 65 #[.val (.int p0), .val (.int p1), .val (.int p2), .val (.int p3), .val (.int p4), .val (.int 3), .val (.int wd), .val (.int mk), .val (.int c0), .val (.int c1), .val (.int c2), .unset, .unset, .unset, .unset] [(.int ((p4 &&& mk).toUInt32.toUInt16.toUInt32.toInt32))])) _
    rw [← hq3]
    show Steps _ _ _ (s₁.setTop (mkF m 65 #[.val (.int p0), .val (.int p1), .val (.int p2), .val (.int p3), .val (.int p4), .val (.int 3), .val (.int wd), .val (.int mk), .val (.int c0), .val (.int c1), .val (.int c2), .unset, .unset, .unset, .unset] [.int c3])) _
    refine XS.istore X0.here hx rfl (hB at_65) rfl (l' := #[.val (.int p0), .val (.int p1), .val (.int p2), .val (.int p3), .val (.int p4), .val (.int 3), .val (.int wd), .val (.int mk), .val (.int c0), .val (.int c1), .val (.int c2), .val (.int c3), .unset, .unset, .unset]) rfl ?_
    refine XS.iload X0.here hx rfl (hB at_67) rfl ?_
    refine st624 _ ?_
    show Steps _ _ _ (T624.setTop (mkF m 71 #[.val (.int p0), .val (.int p1), .val (.int p2), .val (.int p3), .val (.int p4), .val (.int 3), .val (.int wd), .val (.int mk), .val (.int c0), .val (.int c1), .val (.int c2), .val (.int c3), .unset, .unset, .unset] [.ref b624])) _
    refine XS.astore X624.here hx rfl (hB at_71) rfl rfl (l' := #[.val (.int p0), .val (.int p1), .val (.int p2), .val (.int p3), .val (.int p4), .val (.int 3), .val (.int wd), .val (.int mk), .val (.int c0), .val (.int c1), .val (.int c2), .val (.int c3), .val (.ref b624), .unset, .unset]) rfl ?_
    refine XS.iload X624.here hx rfl (hB at_73) rfl ?_
    refine XS.ifNo X624.here hx rfl (hB at_75) rfl ((if0 _ _).trans (tlt (by decide : (0 : Int32) < (3 : Int32))).2.2.2) ?_
    refine XS.aload X624.here hx rfl (hB at_78) rfl rfl ?_
    refine XS.iconst X624.here hx rfl (hB at_80) ?_
    refine XS.iload X624.here hx rfl (hB at_81) rfl ?_
    refine st627 _ ?_
    show Steps _ _ _ (T627.setTop (mkF m 84 #[.val (.int p0), .val (.int p1), .val (.int p2), .val (.int p3), .val (.int p4), .val (.int 3), .val (.int wd), .val (.int mk), .val (.int c0), .val (.int c1), .val (.int c2), .val (.int c3), .val (.ref b624), .unset, .unset] [])) _
    refine XS.iload X627.here hx rfl (hB at_84) rfl ?_
    refine XS.iconst X627.here hx rfl (hB at_86) ?_
    refine XS.icmpNo X627.here hx rfl (hB at_87) rfl (tlt (by decide : (1 : Int32) < (3 : Int32))).2.2.2 ?_
    refine XS.aload X627.here hx rfl (hB at_90) rfl rfl ?_
    refine XS.iconst X627.here hx rfl (hB at_92) ?_
    refine XS.iload X627.here hx rfl (hB at_93) rfl ?_
    refine st630 _ ?_
    show Steps _ _ _ (T630.setTop (mkF m 96 #[.val (.int p0), .val (.int p1), .val (.int p2), .val (.int p3), .val (.int p4), .val (.int 3), .val (.int wd), .val (.int mk), .val (.int c0), .val (.int c1), .val (.int c2), .val (.int c3), .val (.ref b624), .unset, .unset] [])) _
    refine XS.iload X630.here hx rfl (hB at_96) rfl ?_
    refine XS.iconst X630.here hx rfl (hB at_98) ?_
    refine XS.icmpNo X630.here hx rfl (hB at_99) rfl (tlt (by decide : (2 : Int32) < (3 : Int32))).2.2.2 ?_
    refine XS.aload X630.here hx rfl (hB at_102) rfl rfl ?_
    refine XS.iconst X630.here hx rfl (hB at_104) ?_
    refine XS.iload X630.here hx rfl (hB at_105) rfl ?_
    refine st633 _ ?_
    show Steps _ _ _ (T633.setTop (mkF m 108 #[.val (.int p0), .val (.int p1), .val (.int p2), .val (.int p3), .val (.int p4), .val (.int 3), .val (.int wd), .val (.int mk), .val (.int c0), .val (.int c1), .val (.int c2), .val (.int c3), .val (.ref b624), .unset, .unset] [])) _
    refine XS.iload X633.here hx rfl (hB at_108) rfl ?_
    refine XS.iconst X633.here hx rfl (hB at_110) ?_
    refine XS.icmpYes X633.here hx rfl (pc0 := 111) (pc' := 120) rfl (hB at_111) rfl (flt (by decide : ¬ ((3 : Int32) < (3 : Int32)))).2.2.2 (by decide) (by decide) ?_
    refine st635 _ ?_
    show Steps _ _ _ (T635.setTop (mkF m 123 #[.val (.int p0), .val (.int p1), .val (.int p2), .val (.int p3), .val (.int p4), .val (.int 3), .val (.int wd), .val (.int mk), .val (.int c0), .val (.int c1), .val (.int c2), .val (.int c3), .val (.ref b624), .unset, .unset] [.ref b635])) _
    refine XS.dup X635.here hx rfl (hB at_123) rfl rfl ?_
    refine XS.aload X635.here hx rfl (hB at_124) rfl rfl ?_
    refine st637.trans ?_
    show Steps _ _ _ (T637.setTop (mkF m 129 #[.val (.int p0), .val (.int p1), .val (.int p2), .val (.int p3), .val (.int p4), .val (.int 3), .val (.int wd), .val (.int mk), .val (.int c0), .val (.int c1), .val (.int c2), .val (.int c3), .val (.ref b624), .unset, .unset] [.ref b635])) _
    refine XS.astore X637.here hx rfl (hB at_129) rfl rfl (l' := #[.val (.int p0), .val (.int p1), .val (.int p2), .val (.int p3), .val (.int p4), .val (.int 3), .val (.int wd), .val (.int mk), .val (.int c0), .val (.int c1), .val (.int c2), .val (.int c3), .val (.ref b624), .val (.ref b635), .unset]) rfl ?_
    show Steps _ _ _ (T637.setTop (mkF m 131 #[.val (.int p0), .val (.int p1), .val (.int p2), .val (.int p3), .val (.int p4), .val (.int 3), .val (.int wd), .val (.int mk), .val (.int c0), .val (.int c1), .val (.int c2), .val (.int c3), .val (.ref b624), .val (.ref b635), .unset] [])) _
    refine st640 _ ?_
    show Steps _ _ _ (T640.setTop (mkF m 192 #[.val (.int p0), .val (.int p1), .val (.int p2), .val (.int p3), .val (.int p4), .val (.int 3), .val (.int wd), .val (.int mk), .val (.int c0), .val (.int c1), .val (.int c2), .val (.int c3), .val (.ref b624), .val (.ref b635), .unset] [(.int (own_valid ([c0, c1, c2] : List Int32)))])) _
    refine XS.istore X640.here hx rfl (hB at_192) rfl (l' := #[.val (.int p0), .val (.int p1), .val (.int p2), .val (.int p3), .val (.int p4), .val (.int 3), .val (.int wd), .val (.int mk), .val (.int c0), .val (.int c1), .val (.int c2), .val (.int c3), .val (.ref b624), .val (.ref b635), .val (.int (own_valid ([c0, c1, c2] : List Int32)))]) rfl ?_
    refine XS.aload X640.here hx rfl (hB at_194) rfl rfl ?_
    refine st642 _ ?_
    show Steps _ _ _ (T642.setTop (mkF m 199 #[.val (.int p0), .val (.int p1), .val (.int p2), .val (.int p3), .val (.int p4), .val (.int 3), .val (.int wd), .val (.int mk), .val (.int c0), .val (.int c1), .val (.int c2), .val (.int c3), .val (.ref b624), .val (.ref b635), .val (.int (own_valid ([c0, c1, c2] : List Int32)))] [(.int (own_valid ([c0, c1, c2] : List Int32)))])) _
    refine XS.iload X642.here hx rfl (hB at_199) rfl ?_
    refine XS.icmpNo X642.here hx rfl (hB at_201) rfl (teq (rfl : (own_valid ([c0, c1, c2] : List Int32)) = (own_valid ([c0, c1, c2] : List Int32)))).2 ?_
    refine XS.iconst X642.here hx rfl (hB at_204) ?_
    refine XS.goto X642.here hx rfl (pc0 := 205) (pc' := 209) rfl (hB at_205) (by decide) (by decide) ?_
    exact retN X642 hx (t := .boolean) Bd.returns (by simp) (hB at_209) hr
  · show Q0 Z G1 fm p0 p1 p2 p3 p4 h0 n0 _ T642.heap _
    exact ⟨rfl, N642, K0_647⟩
  · show CHr Z own_EL s.vm s.heap T642.vm T642.heap
    rw [hh]
    exact hFin
theorem rm0_4 (l : Launch) (Z : State) (a0 : Array Value) (G1 : Int32) (fm : Value) (hG : Glob Z a0 G1 fm) (ws : List Jvm.Cond) (p0 : Int32) (p1 : Int32) (p2 : Int32) (p3 : Int32) (p4 : Int32) (h0 : Heap) (n0 : Nat) (Z0 : n0 ≤ h0.size) (X00 : Old Z n0 h0) (hn : ((p0 &&& (2147483647 : Int32)) % (5 : Int32)) = (4 : Int32)) :
    MetFree l x (head1 (Jvm.Cond.code x code maxLocals ret :: ws) room_1) (fun a U => a = #[.int p0, .int p1, .int p2, .int p3, .int p4] ∧ Z.Warmed39 U.vm ∧ U.heap = h0 ∧ CHv Z own_EL U.vm h0) (fun _ _ _ _ _ => True) (fun _ U o U' => ∃ v L, o = .returned v ∧ Q0 Z G1 fm p0 p1 p2 p3 p4 h0 n0 v U'.heap L ∧ CHr Z own_EL U.vm U.heap U'.vm U'.heap ∧ ReturnedEndW U o U' L room_1.cells room_1.slots) := by
  obtain ⟨hw, O_cs, P_cs, O_as, O_hi, O_lo, O_fm, R_fm⟩ := id hG
  have W := @own_W _ _ hw
  refine MetFree.of_bodySF (plainFor_of_name pn_com_example_label_lattice_labellattice_NamesIsValidPinLaw) hisR ?_
  intro p e s m args below meth c s₁ Bd hml0 hP hK
  obtain ⟨rfl, hZ, hh, hCH⟩ := hP
  have hx := Bd.exec
  have hby := Bd.bytes
  have hB := @hb _ _ hby
  have hml : c.maxLocals = 15 := hml0
  have hown : s.vm.findClass "com/example/label_lattice/labellattice/NamesIsValidPinLaw" = some m.cls := findClass_of_methodNamed Bd.named
  have hnm := (name_of_methodNamed Bd.named Bd.method).1
  have X0 : Stand p l e room_1 (s.setVm s.vm) m #[.int p0, .int p1, .int p2, .int p3, .int p4] below meth c s₁ [] 0 0 := Stand.of_body Bd
  have e0 : s₁.heap = h0 := by rw [← hh, Bd.state]; rfl
  have hS0 : s.Since s.vm h0.size := (State.WarmedH.refl s).since _
  have hk0 : h0.size ≤ h0.size := Nat.le_refl _
  have R0 : CHr Z own_EL s.vm h0 s.vm h0 := CHr.refl hCH
  have hEL := own_ew hw
  have N0 := Fr.nil n0
  have pre0 : ∀ t, Steps p.tables e below (s₁.setTop (mkF m 0 #[.val (.int p0), .val (.int p1), .val (.int p2), .val (.int p3), .val (.int p4), .unset, .unset, .unset, .unset, .unset, .unset, .unset, .unset, .unset, .unset] [])) t → Steps p.tables e below (s₁.setTop (entryFrame m #[.int p0, .int p1, .int p2, .int p3, .int p4] maxLocals)) t := fun t kk_ => castTop (ef_code_IIIII m p0 p1 p2 p3 p4) kk_
  obtain ⟨wd, hwd⟩ : ∃ z : Int32, z = (if (((p0.toUInt32 >>> ((8 : Int32) &&& 31).toUInt32).toInt32) &&& (1 : Int32)) = (0 : Int32) then (0 : Int32) else (1 : Int32)) := ⟨_, rfl⟩
  obtain ⟨mk, hmk⟩ : ∃ z : Int32, z = (if wd = (0 : Int32) then (127 : Int32) else (65535 : Int32)) := ⟨_, rfl⟩
  obtain ⟨c0, hq0⟩ : ∃ z : Int32, z = ((p1 &&& mk).toUInt32.toUInt16.toUInt32.toInt32) := ⟨_, rfl⟩
  have hu0 : own_u16 c0 := by rw [hq0]; exact own_i2c _
  obtain ⟨c1, hq1⟩ : ∃ z : Int32, z = ((p2 &&& mk).toUInt32.toUInt16.toUInt32.toInt32) := ⟨_, rfl⟩
  have hu1 : own_u16 c1 := by rw [hq1]; exact own_i2c _
  obtain ⟨c2, hq2⟩ : ∃ z : Int32, z = ((p3 &&& mk).toUInt32.toUInt16.toUInt32.toInt32) := ⟨_, rfl⟩
  have hu2 : own_u16 c2 := by rw [hq2]; exact own_i2c _
  obtain ⟨c3, hq3⟩ : ∃ z : Int32, z = ((p4 &&& mk).toUInt32.toUInt16.toUInt32.toInt32) := ⟨_, rfl⟩
  have hu3 : own_u16 c3 := by rw [hq3]; exact own_i2c _
  obtain ⟨T648, h648, k648, X648, e648, E648, A648, st648⟩ := newP X0 hx hZ (W 1 rfl) e0 (g := (mkF m 69 #[.val (.int p0), .val (.int p1), .val (.int p2), .val (.int p3), .val (.int p4), .val (.int 4), .val (.int wd), .val (.int mk), .val (.int c0), .val (.int c1), .val (.int c2), .val (.int c3), .unset, .unset, .unset] [.int 4])) rfl (hB at_69) rfl (by decide) (cap := 4) (by decide) (by decide) (by decide) (by decide)
  obtain ⟨b648, g648⟩ : ∃ z, z = h0.size := ⟨_, rfl⟩
  rw [← g648] at A648 st648
  have Z649 : n0 ≤ h648.size := Nat.le_trans Z0 E648.1
  have K0_649 : Keep h0 h648 [] := (Keep.refl h0 []).ext E648
  have O649 : Old Z n0 h648 := X00.ext E648
  have R649 : CHr Z own_EL s.vm h0 s.vm h648 := R0.trans (CHr.ext E648 R0.1)
  have hk649 : h0.size ≤ h648.size := Nat.le_trans hk0 E648.1
  have lo_b648 : h0.size ≤ b648 := Nat.le_of_eq g648.symm
  have g_b648 : n0 ≤ b648 := Nat.le_trans Z0 lo_b648
  have l0_b648 : h0.size ≤ b648 := Nat.le_trans (Keep.refl h0 []).1 lo_b648
  have V_b648 : Arv Z h648 b648 k648 .char (4 : Int32) [.int 0, .int 0, .int 0, .int 0] (.int 0) := (Arv.new A648 (by decide)).pad (pad_rep [] (.int 0) 4)
  obtain ⟨clq650, Arq650, qaq650, Sq650, Nq650, Hq650, Gq650⟩ := id V_b648
  have hinq650 := inb_of (j := (0 : Int32)) Sq650 ⟨by decide, by decide⟩
  obtain ⟨T651, h651, X651, e651, W651, st651⟩ := stC X648 hx hZ e648 Arq650 (j := (0 : Int32)) hinq650 (g := (mkF m 83 #[.val (.int p0), .val (.int p1), .val (.int p2), .val (.int p3), .val (.int p4), .val (.int 4), .val (.int wd), .val (.int mk), .val (.int c0), .val (.int c1), .val (.int c2), .val (.int c3), .val (.ref b648), .unset, .unset] [.int c0, .int 0, .ref b648])) rfl rfl (hB at_83)
  have V651 : Arv Z h651 b648 k648 .char (4 : Int32) [(.int (nar .char c0)), .int 0, .int 0, .int 0] (.int 0) := Arv.set Arq650 qaq650 Sq650 Nq650 Hq650 Gq650 (fits_nar_char _) W651 0 rfl (own_ble rfl)
  rw [own_n16 hu0] at V651
  have Z652 : n0 ≤ h651.size := Nat.le_trans Z649 (Keep.of_wr W651).1
  have K0_652 : Keep h0 h651 [] := K0_649.wr W651 (Or.inr l0_b648)
  have O652 : Old Z n0 h651 := O649.wr W651 g_b648
  have R652 : CHr Z own_EL s.vm h0 s.vm h651 := R649.trans (CHr.wr W651 (Safe.arv hZ.alike V_b648 (by decide)) R649.1)
  have hk652 : h0.size ≤ h651.size := Nat.le_trans hk649 (Keep.of_wr W651).1
  have N651 := Fr.snoc X651 N0 g_b648
  obtain ⟨clq653, Arq653, qaq653, Sq653, Nq653, Hq653, Gq653⟩ := id V651
  have hinq653 := inb_of (j := (1 : Int32)) Sq653 ⟨by decide, by decide⟩
  obtain ⟨T654, h654, X654, e654, W654, st654⟩ := stC X651 hx hZ e651 Arq653 (j := (1 : Int32)) hinq653 (g := (mkF m 95 #[.val (.int p0), .val (.int p1), .val (.int p2), .val (.int p3), .val (.int p4), .val (.int 4), .val (.int wd), .val (.int mk), .val (.int c0), .val (.int c1), .val (.int c2), .val (.int c3), .val (.ref b648), .unset, .unset] [.int c1, .int 1, .ref b648])) rfl rfl (hB at_95)
  have V654 : Arv Z h654 b648 k648 .char (4 : Int32) [.int c0, (.int (nar .char c1)), .int 0, .int 0] (.int 0) := Arv.set Arq653 qaq653 Sq653 Nq653 Hq653 Gq653 (fits_nar_char _) W654 1 rfl (own_ble rfl)
  rw [own_n16 hu1] at V654
  have Z655 : n0 ≤ h654.size := Nat.le_trans Z652 (Keep.of_wr W654).1
  have K0_655 : Keep h0 h654 [] := K0_652.wr W654 (Or.inr l0_b648)
  have O655 : Old Z n0 h654 := O652.wr W654 g_b648
  have R655 : CHr Z own_EL s.vm h0 s.vm h654 := R652.trans (CHr.wr W654 (Safe.arv hZ.alike V651 (by decide)) R652.1)
  have hk655 : h0.size ≤ h654.size := Nat.le_trans hk652 (Keep.of_wr W654).1
  have N654 := Fr.snoc X654 N651 g_b648
  obtain ⟨clq656, Arq656, qaq656, Sq656, Nq656, Hq656, Gq656⟩ := id V654
  have hinq656 := inb_of (j := (2 : Int32)) Sq656 ⟨by decide, by decide⟩
  obtain ⟨T657, h657, X657, e657, W657, st657⟩ := stC X654 hx hZ e654 Arq656 (j := (2 : Int32)) hinq656 (g := (mkF m 107 #[.val (.int p0), .val (.int p1), .val (.int p2), .val (.int p3), .val (.int p4), .val (.int 4), .val (.int wd), .val (.int mk), .val (.int c0), .val (.int c1), .val (.int c2), .val (.int c3), .val (.ref b648), .unset, .unset] [.int c2, .int 2, .ref b648])) rfl rfl (hB at_107)
  have V657 : Arv Z h657 b648 k648 .char (4 : Int32) [.int c0, .int c1, (.int (nar .char c2)), .int 0] (.int 0) := Arv.set Arq656 qaq656 Sq656 Nq656 Hq656 Gq656 (fits_nar_char _) W657 2 rfl (own_ble rfl)
  rw [own_n16 hu2] at V657
  have Z658 : n0 ≤ h657.size := Nat.le_trans Z655 (Keep.of_wr W657).1
  have K0_658 : Keep h0 h657 [] := K0_655.wr W657 (Or.inr l0_b648)
  have O658 : Old Z n0 h657 := O655.wr W657 g_b648
  have R658 : CHr Z own_EL s.vm h0 s.vm h657 := R655.trans (CHr.wr W657 (Safe.arv hZ.alike V654 (by decide)) R655.1)
  have hk658 : h0.size ≤ h657.size := Nat.le_trans hk655 (Keep.of_wr W657).1
  have N657 := Fr.snoc X657 N654 g_b648
  obtain ⟨clq659, Arq659, qaq659, Sq659, Nq659, Hq659, Gq659⟩ := id V657
  have hinq659 := inb_of (j := (3 : Int32)) Sq659 ⟨by decide, by decide⟩
  obtain ⟨T660, h660, X660, e660, W660, st660⟩ := stC X657 hx hZ e657 Arq659 (j := (3 : Int32)) hinq659 (g := (mkF m 119 #[.val (.int p0), .val (.int p1), .val (.int p2), .val (.int p3), .val (.int p4), .val (.int 4), .val (.int wd), .val (.int mk), .val (.int c0), .val (.int c1), .val (.int c2), .val (.int c3), .val (.ref b648), .unset, .unset] [.int c3, .int 3, .ref b648])) rfl rfl (hB at_119)
  have V660 : Arv Z h660 b648 k648 .char (4 : Int32) [.int c0, .int c1, .int c2, (.int (nar .char c3))] (.int 0) := Arv.set Arq659 qaq659 Sq659 Nq659 Hq659 Gq659 (fits_nar_char _) W660 3 rfl (own_ble rfl)
  rw [own_n16 hu3] at V660
  have Z661 : n0 ≤ h660.size := Nat.le_trans Z658 (Keep.of_wr W660).1
  have K0_661 : Keep h0 h660 [] := K0_658.wr W660 (Or.inr l0_b648)
  have O661 : Old Z n0 h660 := O658.wr W660 g_b648
  have R661 : CHr Z own_EL s.vm h0 s.vm h660 := R658.trans (CHr.wr W660 (Safe.arv hZ.alike V657 (by decide)) R658.1)
  have hk661 : h0.size ≤ h660.size := Nat.le_trans hk658 (Keep.of_wr W660).1
  have N660 := Fr.snoc X660 N657 g_b648
  obtain ⟨T662, h662, X662, e662, E662, A662, D662, -, st662⟩ := newO X660 hx hZ hown (W 2 rfl) (W 3 rfl) (W 4 rfl) e660 (g := (mkF m 120 #[.val (.int p0), .val (.int p1), .val (.int p2), .val (.int p3), .val (.int p4), .val (.int 4), .val (.int wd), .val (.int mk), .val (.int c0), .val (.int c1), .val (.int c2), .val (.int c3), .val (.ref b648), .unset, .unset] [])) rfl (hB at_120) (by decide) (by decide)
  obtain ⟨b662, g662⟩ : ∃ z, z = h660.size := ⟨_, rfl⟩
  rw [← g662] at A662 D662 st662
  have Z663 : n0 ≤ h662.size := Nat.le_trans Z661 E662.1
  have K0_663 : Keep h0 h662 [] := K0_661.ext E662
  have O663 : Old Z n0 h662 := O661.ext E662
  have R663 : CHr Z own_EL s.vm h0 s.vm h662 := R661.trans (CHr.ext E662 R661.1)
  have hk663 : h0.size ≤ h662.size := Nat.le_trans hk661 E662.1
  have lo_b662 : h660.size ≤ b662 := Nat.le_of_eq g662.symm
  have g_b662 : n0 ≤ b662 := Nat.le_trans Z661 lo_b662
  have l0_b662 : h0.size ≤ b662 := Nat.le_trans K0_661.1 lo_b662
  have F_value_b662 : Fld Z h662 b662 "java/lang/String" "value" "[B" .null := D662 (Or.inr (W 17 rfl)) (ty := (.array .byte)) (by decide)
  have F_coder_b662 : Fld Z h662 b662 "java/lang/String" "coder" "B" (.int 0) := D662 (Or.inr (W 18 rfl)) (ty := .byte) (by decide)
  have f665 := (V660.ext E662)
  -- pc 126: java/lang/String.<init>
  obtain ⟨_, _, ⟨T664, L664, k664, n664⟩, -, X664, ⟨Lc664, hQ664, l664, y664, z664⟩, st664⟩ := X662.specialBack hx (y := y19) rfl hown (mvT hZ (W 5 rfl)) (mvT hZ (W 6 rfl)) (mvT hZ (W 7 rfl)) (by decide) (backOf (W := 1) (rmini4 l Z a0 G1 fm hG [] b662 b648 k648 c0 c1 c2 c3 h662 n0 Z663 O663 A662 g_b662 F_value_b662 F_coder_b662 f665 (Nat.ne_of_lt (Nat.lt_of_lt_of_le V660.lt lo_b662)) (own_all4 hu0 hu1 hu2 hu3)) hZ (W 7 rfl) (W 4 rfl) (by decide) (by decide)) (g := (mkF m 126 #[.val (.int p0), .val (.int p1), .val (.int p2), .val (.int p3), .val (.int p4), .val (.int 4), .val (.int wd), .val (.int mk), .val (.int c0), .val (.int c1), .val (.int c2), .val (.int c3), .val (.ref b648), .unset, .unset] [.ref b648, .ref b662, .ref b662])) rfl (by rw [hml]; rfl) (Steps.refl _) (a := b662) (argsL := [.ref b648]) (rest := [.ref b662]) (lenOf pd___C_V rfl) rfl (by show 2 * 0 + _ ≤ _; exact Nat.le_of_eq rfl) (hB at_126) (fun _ _ => ⟨rfl, e662, (by decide : 2 + 2 ≤ _), (by decide : 8 + 12 ≤ _)⟩)
  dsimp only [Pt.U, Pt.locs, Pt.cells, Pt.slots] at X664 l664 y664 z664 st664 hQ664
  subst l664 y664 z664
  obtain ⟨t_664, kb_664, cd_664, z_664, vs_664, rfl, N664q, K664, f664_0, f664_1, f664_2, f664_3, f664_4⟩ := hQ664
  have N664 := Fr.app N660 N664q
  have Z666 : n0 ≤ T664.heap.size := Nat.le_trans Z663 K664.1
  have K0_666 : Keep h0 T664.heap [] := K0_663.trans K664 (allS (Or.inr l0_b662) all0)
  have O666 : Old Z n0 T664.heap := O663.keep K664 (allS g_b662 all0)
  have R666 : CHr Z own_EL s.vm h0 s.vm T664.heap := R663.trans (CHr.keep K664 (sfS (own_safeS hZ.alike A662 F_value_b662) sf0) R663.1)
  have hk666 : h0.size ≤ T664.heap.size := Nat.le_trans hk663 K664.1
  obtain ⟨T667, L667, X667, N667, K667, st667⟩ := sgexp Z a0 G1 fm hG p0 p1 p2 p3 p4 (4 : Int32) wd mk c0 c1 c2 c3 b648 b662 ([c0, c1, c2, c3] : List Int32) 4 20 T664.heap n0 Z666 O666 (Or.inr (Or.inr (Or.inr (Or.inr (⟨rfl, rfl⟩))))) (by decide) (by decide) X664 hx hZ hby hml hown rfl N664
  have Z668 : n0 ≤ T667.heap.size := Nat.le_trans Z666 K667.1
  have K0_668 : Keep h0 T667.heap [] := K0_666.trans K667 all0
  have O668 : Old Z n0 T667.heap := O666.keep K667 all0
  have R668 : CHr Z own_EL s.vm h0 s.vm T667.heap := R666.trans (CHr.keep K667 sf0 R666.1)
  have hk668 : h0.size ≤ T667.heap.size := Nat.le_trans hk666 K667.1
  have f670 := (f664_0.keep K667)
  have f671 := (f664_1.keep K667 nin0)
  have f672 := (f664_2.keep K667 nin0)
  have f673 := (f664_3.keep K667 nin0)
  -- pc 196: com/example/label_lattice/labellattice/Names.isValid
  obtain ⟨_, _, ⟨T669, L669, k669, n669⟩, -, X669, ⟨Lc669, hQ669, l669, y669, z669⟩, st669⟩ := Jvm.LawKit.callS X667 hx (y := y24) hown (mvT hZ (W 23 rfl)) (mvT hZ (W 24 rfl)) (mvT hZ (W 25 rfl)) (mvT hZ (W 26 rfl)) (by decide) (backOf (W := 0) (rmisv l Z a0 G1 fm hG [] b662 t_664 kb_664 cd_664 z_664 vs_664 ([c0, c1, c2, c3] : List Int32) (4 : Int32) T667.heap n0 Z668 O668 f670 f671 f672 f673 f664_4 (own_ble rfl) (own_all4 hu0 hu1 hu2 hu3) rfl) hZ (W 26 rfl) (W 25 rfl) (by decide) (by decide)) (g := (mkF m 196 #[.val (.int p0), .val (.int p1), .val (.int p2), .val (.int p3), .val (.int p4), .val (.int 4), .val (.int wd), .val (.int mk), .val (.int c0), .val (.int c1), .val (.int c2), .val (.int c3), .val (.ref b648), .val (.ref b662), .val (.int (own_valid ([c0, c1, c2, c3] : List Int32)))] [.ref b662])) rfl (by rw [hml]; rfl) (argsL := [.ref b662]) (rest := []) (lenOf pd__Ljava_lang_String__Z rfl) rfl (by show 2 * 0 + _ ≤ _; exact Nat.le_of_eq rfl) (hB at_196) (fun _ _ => ⟨rfl, rfl, (by decide : 4 + 0 ≤ _), (by decide : 20 + 0 ≤ _)⟩)
  dsimp only [Pt.U, Pt.locs, Pt.cells, Pt.slots] at X669 l669 y669 z669 st669 hQ669
  subst l669 y669 z669
  obtain ⟨rfl, N669q, K669⟩ := hQ669
  have N669 := Fr.app N667 N669q
  have Z674 : n0 ≤ T669.heap.size := Nat.le_trans Z668 K669.1
  have K0_674 : Keep h0 T669.heap [] := K0_668.trans K669 all0
  have O674 : Old Z n0 T669.heap := O668.keep K669 all0
  have R674 : CHr Z own_EL s.vm h0 s.vm T669.heap := R668.trans (CHr.keep K669 sf0 R668.1)
  have hk674 : h0.size ≤ T669.heap.size := Nat.le_trans hk668 K669.1
  obtain ⟨fs, hr, hrun, hended, hend⟩ := Jvm.Stand.leaveW (v := some (.int 1)) X669 hS0 hk674 (fun h => by rw [Bd.returns] at h; cases h)
  have hFin := R674.trans (CHv.at X669 hZ hEL R674.1)
  refine ⟨_, _, pre0 _ ?_, hrun, hended, _, _, rfl, ?_, ?_, own_mono hend (own_ble rfl) (own_ble rfl)⟩
  · show Steps _ _ _ (s₁.setTop (mkF m 0 #[.val (.int p0), .val (.int p1), .val (.int p2), .val (.int p3), .val (.int p4), .unset, .unset, .unset, .unset, .unset, .unset, .unset, .unset, .unset, .unset] [])) _
    refine XS.iloadN X0.here hx rfl (hB at_0) rfl ?_
    refine X0.ldcInt hx hown (mvT hZ (W 0 rfl)) (g := (mkF m 1 #[.val (.int p0), .val (.int p1), .val (.int p2), .val (.int p3), .val (.int p4), .unset, .unset, .unset, .unset, .unset, .unset, .unset, .unset, .unset, .unset] [.int p0])) rfl (hB at_1) _ ?_
    refine XS.iand X0.here hx rfl (hB at_3) rfl ?_
    refine XS.iconst X0.here hx rfl (hB at_4) ?_
    refine iremM (g := (mkF m 5 #[.val (.int p0), .val (.int p1), .val (.int p2), .val (.int p3), .val (.int p4), .unset, .unset, .unset, .unset, .unset, .unset, .unset, .unset, .unset, .unset] [.int 5, (.int (p0 &&& (2147483647 : Int32)))])) X0 hx rfl (hB at_5) rfl (by decide) ?_
    show Steps _ _ _ (s₁.setTop (mkF m 6 #[.val (.int p0), .val (.int p1), .val (.int p2), .val (.int p3), .val (.int p4), .unset, .unset, .unset, .unset, .unset, .unset, .unset, .unset, .unset, .unset] [(.int ((p0 &&& (2147483647 : Int32)) % (5 : Int32)))])) _
    rw [hn]
    show Steps _ _ _ (s₁.setTop (mkF m 6 #[.val (.int p0), .val (.int p1), .val (.int p2), .val (.int p3), .val (.int p4), .unset, .unset, .unset, .unset, .unset, .unset, .unset, .unset, .unset, .unset] [.int 4])) _
    refine XS.istore X0.here hx rfl (hB at_6) rfl (l' := #[.val (.int p0), .val (.int p1), .val (.int p2), .val (.int p3), .val (.int p4), .val (.int 4), .unset, .unset, .unset, .unset, .unset, .unset, .unset, .unset, .unset]) rfl ?_
    refine XS.iloadN X0.here hx rfl (hB at_8) rfl ?_
    refine XS.bipush X0.here hx rfl (hB at_9) ?_
    refine XS.iushr X0.here hx rfl (hB at_11) rfl ?_
    refine XS.iconst X0.here hx rfl (hB at_12) ?_
    refine XS.iand X0.here hx rfl (hB at_13) rfl ?_
    show Steps _ _ _ (s₁.setTop (mkF m 14 #[.val (.int p0), .val (.int p1), .val (.int p2), .val (.int p3), .val (.int p4), .val (.int 4), .unset, .unset, .unset, .unset, .unset, .unset, .unset, .unset, .unset] [(.int (((p0.toUInt32 >>> ((8 : Int32) &&& 31).toUInt32).toInt32) &&& (1 : Int32)))])) _
    refine Steps.trans (?_ : Steps p.tables e below _ (s₁.setTop (mkF m 22 #[.val (.int p0), .val (.int p1), .val (.int p2), .val (.int p3), .val (.int p4), .val (.int 4), .unset, .unset, .unset, .unset, .unset, .unset, .unset, .unset, .unset] [.int wd]))) ?_
    · by_cases hj : (((p0.toUInt32 >>> ((8 : Int32) &&& 31).toUInt32).toInt32) &&& (1 : Int32)) = (0 : Int32)
      · show Steps _ _ _ (s₁.setTop (mkF m 14 #[.val (.int p0), .val (.int p1), .val (.int p2), .val (.int p3), .val (.int p4), .val (.int 4), .unset, .unset, .unset, .unset, .unset, .unset, .unset, .unset, .unset] [(.int (((p0.toUInt32 >>> ((8 : Int32) &&& 31).toUInt32).toInt32) &&& (1 : Int32)))])) _
        refine XS.ifYes X0.here hx rfl (pc0 := 14) (pc' := 21) rfl (hB at_14) rfl ((if0 _ _).trans (teq (hj : (((p0.toUInt32 >>> ((8 : Int32) &&& 31).toUInt32).toInt32) &&& (1 : Int32)) = (0 : Int32))).1) (by decide) (by decide) ?_
        refine XS.iconst X0.here hx rfl (hB at_21) ?_
        rw [hwd, if_pos hj]
        exact Steps.refl _
      · show Steps _ _ _ (s₁.setTop (mkF m 14 #[.val (.int p0), .val (.int p1), .val (.int p2), .val (.int p3), .val (.int p4), .val (.int 4), .unset, .unset, .unset, .unset, .unset, .unset, .unset, .unset, .unset] [(.int (((p0.toUInt32 >>> ((8 : Int32) &&& 31).toUInt32).toInt32) &&& (1 : Int32)))])) _
        refine XS.ifNo X0.here hx rfl (hB at_14) rfl ((if0 _ _).trans (feq (hj : ¬ ((((p0.toUInt32 >>> ((8 : Int32) &&& 31).toUInt32).toInt32) &&& (1 : Int32)) = (0 : Int32)))).1) ?_
        refine XS.iconst X0.here hx rfl (hB at_17) ?_
        refine XS.goto X0.here hx rfl (pc0 := 18) (pc' := 22) rfl (hB at_18) (by decide) (by decide) ?_
        rw [hwd, if_neg hj]
        exact Steps.refl _
    show Steps _ _ _ (s₁.setTop (mkF m 22 #[.val (.int p0), .val (.int p1), .val (.int p2), .val (.int p3), .val (.int p4), .val (.int 4), .unset, .unset, .unset, .unset, .unset, .unset, .unset, .unset, .unset] [.int wd])) _
    refine XS.istore X0.here hx rfl (hB at_22) rfl (l' := #[.val (.int p0), .val (.int p1), .val (.int p2), .val (.int p3), .val (.int p4), .val (.int 4), .val (.int wd), .unset, .unset, .unset, .unset, .unset, .unset, .unset, .unset]) rfl ?_
    refine XS.iload X0.here hx rfl (hB at_24) rfl ?_
    show Steps _ _ _ (s₁.setTop (mkF m 26 #[.val (.int p0), .val (.int p1), .val (.int p2), .val (.int p3), .val (.int p4), .val (.int 4), .val (.int wd), .unset, .unset, .unset, .unset, .unset, .unset, .unset, .unset] [.int wd])) _
    refine Steps.trans (?_ : Steps p.tables e below _ (s₁.setTop (mkF m 36 #[.val (.int p0), .val (.int p1), .val (.int p2), .val (.int p3), .val (.int p4), .val (.int 4), .val (.int wd), .unset, .unset, .unset, .unset, .unset, .unset, .unset, .unset] [.int mk]))) ?_
    · by_cases hj : wd = (0 : Int32)
      · show Steps _ _ _ (s₁.setTop (mkF m 26 #[.val (.int p0), .val (.int p1), .val (.int p2), .val (.int p3), .val (.int p4), .val (.int 4), .val (.int wd), .unset, .unset, .unset, .unset, .unset, .unset, .unset, .unset] [.int wd])) _
        refine XS.ifYes X0.here hx rfl (pc0 := 26) (pc' := 34) rfl (hB at_26) rfl ((if0 _ _).trans (teq (hj : wd = (0 : Int32))).1) (by decide) (by decide) ?_
        refine XS.bipush X0.here hx rfl (hB at_34) ?_
        rw [hmk, if_pos hj]
        exact Steps.refl _
      · show Steps _ _ _ (s₁.setTop (mkF m 26 #[.val (.int p0), .val (.int p1), .val (.int p2), .val (.int p3), .val (.int p4), .val (.int 4), .val (.int wd), .unset, .unset, .unset, .unset, .unset, .unset, .unset, .unset] [.int wd])) _
        refine XS.ifNo X0.here hx rfl (hB at_26) rfl ((if0 _ _).trans (feq (hj : ¬ (wd = (0 : Int32)))).1) ?_
        refine X0.ldcInt hx hown (mvT hZ (W 83 rfl)) (g := (mkF m 29 #[.val (.int p0), .val (.int p1), .val (.int p2), .val (.int p3), .val (.int p4), .val (.int 4), .val (.int wd), .unset, .unset, .unset, .unset, .unset, .unset, .unset, .unset] [])) rfl (hB at_29) _ ?_
        refine XS.goto X0.here hx rfl (pc0 := 31) (pc' := 36) rfl (hB at_31) (by decide) (by decide) ?_
        rw [hmk, if_neg hj]
        exact Steps.refl _
    show Steps _ _ _ (s₁.setTop (mkF m 36 #[.val (.int p0), .val (.int p1), .val (.int p2), .val (.int p3), .val (.int p4), .val (.int 4), .val (.int wd), .unset, .unset, .unset, .unset, .unset, .unset, .unset, .unset] [.int mk])) _
    refine XS.istore X0.here hx rfl (hB at_36) rfl (l' := #[.val (.int p0), .val (.int p1), .val (.int p2), .val (.int p3), .val (.int p4), .val (.int 4), .val (.int wd), .val (.int mk), .unset, .unset, .unset, .unset, .unset, .unset, .unset]) rfl ?_
    refine XS.iloadN X0.here hx rfl (hB at_38) rfl ?_
    refine XS.iload X0.here hx rfl (hB at_39) rfl ?_
    refine XS.iand X0.here hx rfl (hB at_41) rfl ?_
    refine XS.i2c X0.here hx rfl (hB at_42) rfl ?_
    show Steps _ _ _ (s₁.setTop (mkF m 43 #[.val (.int p0), .val (.int p1), .val (.int p2), .val (.int p3), .val (.int p4), .val (.int 4), .val (.int wd), .val (.int mk), .unset, .unset, .unset, .unset, .unset, .unset, .unset] [(.int ((p1 &&& mk).toUInt32.toUInt16.toUInt32.toInt32))])) _
    rw [← hq0]
    show Steps _ _ _ (s₁.setTop (mkF m 43 #[.val (.int p0), .val (.int p1), .val (.int p2), .val (.int p3), .val (.int p4), .val (.int 4), .val (.int wd), .val (.int mk), .unset, .unset, .unset, .unset, .unset, .unset, .unset] [.int c0])) _
    refine XS.istore X0.here hx rfl (hB at_43) rfl (l' := #[.val (.int p0), .val (.int p1), .val (.int p2), .val (.int p3), .val (.int p4), .val (.int 4), .val (.int wd), .val (.int mk), .val (.int c0), .unset, .unset, .unset, .unset, .unset, .unset]) rfl ?_
    refine XS.iloadN X0.here hx rfl (hB at_45) rfl ?_
    refine XS.iload X0.here hx rfl (hB at_46) rfl ?_
    refine XS.iand X0.here hx rfl (hB at_48) rfl ?_
    refine XS.i2c X0.here hx rfl (hB at_49) rfl ?_
    show Steps _ _ _ (s₁.setTop (mkF m 50 #[.val (.int p0), .val (.int p1), .val (.int p2), .val (.int p3), .val (.int p4), .val (.int 4), .val (.int wd), .val (.int mk), .val (.int c0), .unset, .unset, .unset, .unset, .unset, .unset] [(.int ((p2 &&& mk).toUInt32.toUInt16.toUInt32.toInt32))])) _
    rw [← hq1]
    show Steps _ _ _ (s₁.setTop (mkF m 50 #[.val (.int p0), .val (.int p1), .val (.int p2), .val (.int p3), .val (.int p4), .val (.int 4), .val (.int wd), .val (.int mk), .val (.int c0), .unset, .unset, .unset, .unset, .unset, .unset] [.int c1])) _
    refine XS.istore X0.here hx rfl (hB at_50) rfl (l' := #[.val (.int p0), .val (.int p1), .val (.int p2), .val (.int p3), .val (.int p4), .val (.int 4), .val (.int wd), .val (.int mk), .val (.int c0), .val (.int c1), .unset, .unset, .unset, .unset, .unset]) rfl ?_
    refine XS.iloadN X0.here hx rfl (hB at_52) rfl ?_
    refine XS.iload X0.here hx rfl (hB at_53) rfl ?_
    refine XS.iand X0.here hx rfl (hB at_55) rfl ?_
    refine XS.i2c X0.here hx rfl (hB at_56) rfl ?_
    show Steps _ _ _ (s₁.setTop (mkF m 57 #[.val (.int p0), .val (.int p1), .val (.int p2), .val (.int p3), .val (.int p4), .val (.int 4), .val (.int wd), .val (.int mk), .val (.int c0), .val (.int c1), .unset, .unset, .unset, .unset, .unset] [(.int ((p3 &&& mk).toUInt32.toUInt16.toUInt32.toInt32))])) _
    rw [← hq2]
    show Steps _ _ _ (s₁.setTop (mkF m 57 #[.val (.int p0), .val (.int p1), .val (.int p2), .val (.int p3), .val (.int p4), .val (.int 4), .val (.int wd), .val (.int mk), .val (.int c0), .val (.int c1), .unset, .unset, .unset, .unset, .unset] [.int c2])) _
    refine XS.istore X0.here hx rfl (hB at_57) rfl (l' := #[.val (.int p0), .val (.int p1), .val (.int p2), .val (.int p3), .val (.int p4), .val (.int 4), .val (.int wd), .val (.int mk), .val (.int c0), .val (.int c1), .val (.int c2), .unset, .unset, .unset, .unset]) rfl ?_
    refine XS.iload X0.here hx rfl (hB at_59) rfl ?_
    refine XS.iload X0.here hx rfl (hB at_61) rfl ?_
    refine XS.iand X0.here hx rfl (hB at_63) rfl ?_
    refine XS.i2c X0.here hx rfl (hB at_64) rfl ?_
    show Steps _ _ _ (s₁.setTop (mkF m 65 #[.val (.int p0), .val (.int p1), .val (.int p2), .val (.int p3), .val (.int p4), .val (.int 4), .val (.int wd), .val (.int mk), .val (.int c0), .val (.int c1), .val (.int c2), .unset, .unset, .unset, .unset] [(.int ((p4 &&& mk).toUInt32.toUInt16.toUInt32.toInt32))])) _
    rw [← hq3]
    show Steps _ _ _ (s₁.setTop (mkF m 65 #[.val (.int p0), .val (.int p1), .val (.int p2), .val (.int p3), .val (.int p4), .val (.int 4), .val (.int wd), .val (.int mk), .val (.int c0), .val (.int c1), .val (.int c2), .unset, .unset, .unset, .unset] [.int c3])) _
    refine XS.istore X0.here hx rfl (hB at_65) rfl (l' := #[.val (.int p0), .val (.int p1), .val (.int p2), .val (.int p3), .val (.int p4), .val (.int 4), .val (.int wd), .val (.int mk), .val (.int c0), .val (.int c1), .val (.int c2), .val (.int c3), .unset, .unset, .unset]) rfl ?_
    refine XS.iload X0.here hx rfl (hB at_67) rfl ?_
    refine st648 _ ?_
    show Steps _ _ _ (T648.setTop (mkF m 71 #[.val (.int p0), .val (.int p1), .val (.int p2), .val (.int p3), .val (.int p4), .val (.int 4), .val (.int wd), .val (.int mk), .val (.int c0), .val (.int c1), .val (.int c2), .val (.int c3), .unset, .unset, .unset] [.ref b648])) _
    refine XS.astore X648.here hx rfl (hB at_71) rfl rfl (l' := #[.val (.int p0), .val (.int p1), .val (.int p2), .val (.int p3), .val (.int p4), .val (.int 4), .val (.int wd), .val (.int mk), .val (.int c0), .val (.int c1), .val (.int c2), .val (.int c3), .val (.ref b648), .unset, .unset]) rfl ?_
    refine XS.iload X648.here hx rfl (hB at_73) rfl ?_
    refine XS.ifNo X648.here hx rfl (hB at_75) rfl ((if0 _ _).trans (tlt (by decide : (0 : Int32) < (4 : Int32))).2.2.2) ?_
    refine XS.aload X648.here hx rfl (hB at_78) rfl rfl ?_
    refine XS.iconst X648.here hx rfl (hB at_80) ?_
    refine XS.iload X648.here hx rfl (hB at_81) rfl ?_
    refine st651 _ ?_
    show Steps _ _ _ (T651.setTop (mkF m 84 #[.val (.int p0), .val (.int p1), .val (.int p2), .val (.int p3), .val (.int p4), .val (.int 4), .val (.int wd), .val (.int mk), .val (.int c0), .val (.int c1), .val (.int c2), .val (.int c3), .val (.ref b648), .unset, .unset] [])) _
    refine XS.iload X651.here hx rfl (hB at_84) rfl ?_
    refine XS.iconst X651.here hx rfl (hB at_86) ?_
    refine XS.icmpNo X651.here hx rfl (hB at_87) rfl (tlt (by decide : (1 : Int32) < (4 : Int32))).2.2.2 ?_
    refine XS.aload X651.here hx rfl (hB at_90) rfl rfl ?_
    refine XS.iconst X651.here hx rfl (hB at_92) ?_
    refine XS.iload X651.here hx rfl (hB at_93) rfl ?_
    refine st654 _ ?_
    show Steps _ _ _ (T654.setTop (mkF m 96 #[.val (.int p0), .val (.int p1), .val (.int p2), .val (.int p3), .val (.int p4), .val (.int 4), .val (.int wd), .val (.int mk), .val (.int c0), .val (.int c1), .val (.int c2), .val (.int c3), .val (.ref b648), .unset, .unset] [])) _
    refine XS.iload X654.here hx rfl (hB at_96) rfl ?_
    refine XS.iconst X654.here hx rfl (hB at_98) ?_
    refine XS.icmpNo X654.here hx rfl (hB at_99) rfl (tlt (by decide : (2 : Int32) < (4 : Int32))).2.2.2 ?_
    refine XS.aload X654.here hx rfl (hB at_102) rfl rfl ?_
    refine XS.iconst X654.here hx rfl (hB at_104) ?_
    refine XS.iload X654.here hx rfl (hB at_105) rfl ?_
    refine st657 _ ?_
    show Steps _ _ _ (T657.setTop (mkF m 108 #[.val (.int p0), .val (.int p1), .val (.int p2), .val (.int p3), .val (.int p4), .val (.int 4), .val (.int wd), .val (.int mk), .val (.int c0), .val (.int c1), .val (.int c2), .val (.int c3), .val (.ref b648), .unset, .unset] [])) _
    refine XS.iload X657.here hx rfl (hB at_108) rfl ?_
    refine XS.iconst X657.here hx rfl (hB at_110) ?_
    refine XS.icmpNo X657.here hx rfl (hB at_111) rfl (tlt (by decide : (3 : Int32) < (4 : Int32))).2.2.2 ?_
    refine XS.aload X657.here hx rfl (hB at_114) rfl rfl ?_
    refine XS.iconst X657.here hx rfl (hB at_116) ?_
    refine XS.iload X657.here hx rfl (hB at_117) rfl ?_
    refine st660 _ ?_
    show Steps _ _ _ (T660.setTop (mkF m 120 #[.val (.int p0), .val (.int p1), .val (.int p2), .val (.int p3), .val (.int p4), .val (.int 4), .val (.int wd), .val (.int mk), .val (.int c0), .val (.int c1), .val (.int c2), .val (.int c3), .val (.ref b648), .unset, .unset] [])) _
    refine st662 _ ?_
    show Steps _ _ _ (T662.setTop (mkF m 123 #[.val (.int p0), .val (.int p1), .val (.int p2), .val (.int p3), .val (.int p4), .val (.int 4), .val (.int wd), .val (.int mk), .val (.int c0), .val (.int c1), .val (.int c2), .val (.int c3), .val (.ref b648), .unset, .unset] [.ref b662])) _
    refine XS.dup X662.here hx rfl (hB at_123) rfl rfl ?_
    refine XS.aload X662.here hx rfl (hB at_124) rfl rfl ?_
    refine st664.trans ?_
    show Steps _ _ _ (T664.setTop (mkF m 129 #[.val (.int p0), .val (.int p1), .val (.int p2), .val (.int p3), .val (.int p4), .val (.int 4), .val (.int wd), .val (.int mk), .val (.int c0), .val (.int c1), .val (.int c2), .val (.int c3), .val (.ref b648), .unset, .unset] [.ref b662])) _
    refine XS.astore X664.here hx rfl (hB at_129) rfl rfl (l' := #[.val (.int p0), .val (.int p1), .val (.int p2), .val (.int p3), .val (.int p4), .val (.int 4), .val (.int wd), .val (.int mk), .val (.int c0), .val (.int c1), .val (.int c2), .val (.int c3), .val (.ref b648), .val (.ref b662), .unset]) rfl ?_
    show Steps _ _ _ (T664.setTop (mkF m 131 #[.val (.int p0), .val (.int p1), .val (.int p2), .val (.int p3), .val (.int p4), .val (.int 4), .val (.int wd), .val (.int mk), .val (.int c0), .val (.int c1), .val (.int c2), .val (.int c3), .val (.ref b648), .val (.ref b662), .unset] [])) _
    refine st667 _ ?_
    show Steps _ _ _ (T667.setTop (mkF m 192 #[.val (.int p0), .val (.int p1), .val (.int p2), .val (.int p3), .val (.int p4), .val (.int 4), .val (.int wd), .val (.int mk), .val (.int c0), .val (.int c1), .val (.int c2), .val (.int c3), .val (.ref b648), .val (.ref b662), .unset] [(.int (own_valid ([c0, c1, c2, c3] : List Int32)))])) _
    refine XS.istore X667.here hx rfl (hB at_192) rfl (l' := #[.val (.int p0), .val (.int p1), .val (.int p2), .val (.int p3), .val (.int p4), .val (.int 4), .val (.int wd), .val (.int mk), .val (.int c0), .val (.int c1), .val (.int c2), .val (.int c3), .val (.ref b648), .val (.ref b662), .val (.int (own_valid ([c0, c1, c2, c3] : List Int32)))]) rfl ?_
    refine XS.aload X667.here hx rfl (hB at_194) rfl rfl ?_
    refine st669 _ ?_
    show Steps _ _ _ (T669.setTop (mkF m 199 #[.val (.int p0), .val (.int p1), .val (.int p2), .val (.int p3), .val (.int p4), .val (.int 4), .val (.int wd), .val (.int mk), .val (.int c0), .val (.int c1), .val (.int c2), .val (.int c3), .val (.ref b648), .val (.ref b662), .val (.int (own_valid ([c0, c1, c2, c3] : List Int32)))] [(.int (own_valid ([c0, c1, c2, c3] : List Int32)))])) _
    refine XS.iload X669.here hx rfl (hB at_199) rfl ?_
    refine XS.icmpNo X669.here hx rfl (hB at_201) rfl (teq (rfl : (own_valid ([c0, c1, c2, c3] : List Int32)) = (own_valid ([c0, c1, c2, c3] : List Int32)))).2 ?_
    refine XS.iconst X669.here hx rfl (hB at_204) ?_
    refine XS.goto X669.here hx rfl (pc0 := 205) (pc' := 209) rfl (hB at_205) (by decide) (by decide) ?_
    exact retN X669 hx (t := .boolean) Bd.returns (by simp) (hB at_209) hr
  · show Q0 Z G1 fm p0 p1 p2 p3 p4 h0 n0 _ T669.heap _
    exact ⟨rfl, N669, K0_674⟩
  · show CHr Z own_EL s.vm s.heap T669.vm T669.heap
    rw [hh]
    exact hFin
theorem own_n5 (x : Int32) : ((x &&& (2147483647 : Int32)) % (5 : Int32)) = (0 : Int32) ∨ ((x &&& (2147483647 : Int32)) % (5 : Int32)) = (1 : Int32) ∨ ((x &&& (2147483647 : Int32)) % (5 : Int32)) = (2 : Int32) ∨ ((x &&& (2147483647 : Int32)) % (5 : Int32)) = (3 : Int32) ∨ ((x &&& (2147483647 : Int32)) % (5 : Int32)) = (4 : Int32) := by
  have m1 := c_mask x 2147483647 31 (by decide) (by decide)
  generalize x &&& (2147483647 : Int32) = y at m1 ⊢
  have h : (y % (5 : Int32)).toInt = y.toInt.tmod 5 := by rw [Int32.toInt_mod]; rfl
  have h0 : 0 ≤ y.toInt := by omega
  have h5 : (y % (5 : Int32)).toInt = y.toInt % 5 := by rw [h, Int.tmod_eq_emod_of_nonneg h0]
  have hd : (y % (5 : Int32)).toInt = 0 ∨ (y % (5 : Int32)).toInt = 1 ∨ (y % (5 : Int32)).toInt = 2 ∨ (y % (5 : Int32)).toInt = 3 ∨ (y % (5 : Int32)).toInt = 4 := by omega
  rcases hd with h | h | h | h | h
  · exact Or.inl (Int32.toInt_inj.mp h)
  · exact Or.inr (Or.inl (Int32.toInt_inj.mp h))
  · exact Or.inr (Or.inr (Or.inl (Int32.toInt_inj.mp h)))
  · exact Or.inr (Or.inr (Or.inr (Or.inl (Int32.toInt_inj.mp h))))
  · exact Or.inr (Or.inr (Or.inr (Or.inr (Int32.toInt_inj.mp h))))
theorem rm0 (l : Launch) (Z : State) (a0 : Array Value) (G1 : Int32) (fm : Value) (hG : Glob Z a0 G1 fm) (ws : List Jvm.Cond) (p0 : Int32) (p1 : Int32) (p2 : Int32) (p3 : Int32) (p4 : Int32) (h0 : Heap) (n0 : Nat) (Z0 : n0 ≤ h0.size) (X00 : Old Z n0 h0) :
    MetFree l x (head1 (Jvm.Cond.code x code maxLocals ret :: ws) room_1) (fun a U => a = #[.int p0, .int p1, .int p2, .int p3, .int p4] ∧ Z.Warmed39 U.vm ∧ U.heap = h0 ∧ CHv Z own_EL U.vm h0) (fun _ _ _ _ _ => True) (fun _ U o U' => ∃ v L, o = .returned v ∧ Q0 Z G1 fm p0 p1 p2 p3 p4 h0 n0 v U'.heap L ∧ CHr Z own_EL U.vm U.heap U'.vm U'.heap ∧ ReturnedEndW U o U' L room_1.cells room_1.slots) := by
  rcases own_n5 p0 with h | h | h | h | h
  · exact rm0_0 l Z a0 G1 fm hG ws p0 p1 p2 p3 p4 h0 n0 Z0 X00 h
  · exact rm0_1 l Z a0 G1 fm hG ws p0 p1 p2 p3 p4 h0 n0 Z0 X00 h
  · exact rm0_2 l Z a0 G1 fm hG ws p0 p1 p2 p3 p4 h0 n0 Z0 X00 h
  · exact rm0_3 l Z a0 G1 fm hG ws p0 p1 p2 p3 p4 h0 n0 Z0 X00 h
  · exact rm0_4 l Z a0 G1 fm hG ws p0 p1 p2 p3 p4 h0 n0 Z0 X00 h
theorem own_eqI {args : Array Value} {s : State} {t : Term} {k : Int32} (h : (Jvm.Cond.eq t (Term.int k)).value args s none s [] = some true) : t.eval args s none [] s = some (.int k) := by
  cases ev : t.eval args s none [] s with
  | none => simp [Cond.value, Term.eval, ev] at h
  | some v => cases v <;> first | (simp [Cond.value, Term.eval, ev] at h; done) | (simp [Cond.value, Term.eval, ev] at h; subst h; rfl)
theorem comes_1 {Post : Tables → Env → Array Value → State → Outcome → State → Prop} (hpost : ∀ tb e args s v u, (limb_1_1.after args s (.returned v) u = true ∧ limb_1_2.after args s (.returned v) u = true ∧ True) → ReturnedEndW s (.returned v) u (Jvm.fieldLocs frame_1_writes args s ++ Jvm.arrayLocs frame_1_arrays args s ++ Jvm.staticLocs frame_1_statics s) 24 1152 → Post tb e args s (.returned v) u) :
    ArmFor flags0 classFile x code maxLocals ret World_1 tables_1 room_1 Calls_1 rest_1 Pre_1 Post := by
  intro l hfl _ _ p e ha hc hk s m args below hf hA hF happ hP
  obtain ⟨hcalls, hrest, hpre⟩ := hP
  obtain ⟨-, -, -, hnamed, -, -, -, hat⟩ := (Spec.applies_iff hf).mp happ
  obtain ⟨hg, hn⟩ := and_e (Cond.before_iff.mp (show (Jvm.Cond.and given_1 narrow_1).before args s = true from hpre))
  obtain ⟨gc, gr0⟩ := and_e hg
  obtain ⟨ga0, gr1⟩ := and_e gr0
  obtain ⟨ga1, gr2⟩ := and_e gr1
  obtain ⟨ga2, gr3⟩ := and_e gr2
  obtain ⟨ga3, gr4⟩ := and_e gr3
  obtain ⟨w0, w1, w2, w3, w4, rfl⟩ : ∃ w0 w1 w2 w3 w4 : Value, args = #[w0, w1, w2, w3, w4] := by
    have hs : args.size = 5 := by simpa [Cond.value, given_1] using gc
    obtain ⟨L⟩ := args
    match L, hs with
    | [w0, w1, w2, w3, w4], _ => exact ⟨w0, w1, w2, w3, w4, rfl⟩
  have hw := fun d (hd : d ∈ tables_1) => atoms_spec (ws := Jvm.Cond.code x code maxLocals ret :: tables_1) hat d (List.mem_cons_of_mem _ hd)
  have hfit : Fit s := fun {y c} hc i hi => by
    obtain ⟨ha, rfl⟩ := Array.getElem?_eq_some_iff.mp hc
    have q := List.all_eq_true.mp ((Array.all_eq_true_iff_forall_mem.mp hF) _ (Array.getElem_mem ha)) i (List.mem_range.mpr hi)
    simpa [Array.getElem?_eq_getElem hi] using q
  obtain ⟨hsets, hown0⟩ := atoms_of _ (rest_1_c_eq ▸ (show rest_1_c.before _ s = true from hrest))
  obtain ⟨i0, ei0⟩ := is_v ga0
  obtain rfl : w0 = (.int i0) := Option.some.inj ei0
  obtain ⟨i1, ei1⟩ := is_v ga1
  obtain rfl : w1 = (.int i1) := Option.some.inj ei1
  obtain ⟨i2, ei2⟩ := is_v ga2
  obtain rfl : w2 = (.int i2) := Option.some.inj ei2
  obtain ⟨i3, ei3⟩ := is_v ga3
  obtain rfl : w3 = (.int i3) := Option.some.inj ei3
  obtain ⟨i4, ei4⟩ := is_v gr4
  obtain rfl : w4 = (.int i4) := Option.some.inj ei4
  have W : ∀ (i : Nat) {d : Jvm.Cond}, tables_1[i]? = some d → d.before _ s = true := fun i d h => hw d (List.mem_of_getElem? h)
  obtain ⟨G, eG⟩ := is_v (Cond.before_iff.mp (hsets _ (List.mem_of_getElem? (i := 1) rfl)))
  have nG := not_v (Cond.before_iff.mp (hsets _ (List.mem_of_getElem? (i := 2) rfl)))
  have SG : Sta s s.heap "java/lang/String" "COMPACT_STRINGS" "Z" (.int G) := Sta.start eG (Or.inl (hsets _ (List.mem_of_getElem? (i := 0) rfl)))
  have cG : ¬ (G = (0 : Int32)) := gotF (Cond.eq_ints eG (Term.int_eval (0))) nG
  have Sas : Sta s s.heap "java/lang/StringUTF16" "$assertionsDisabled" "Z" (.int 1) := Sta.start (own_eqI (Cond.before_iff.mp (hsets _ (List.mem_of_getElem? (i := 12) rfl)))) (Or.inl (hsets _ (List.mem_of_getElem? (i := 11) rfl)))
  have Shi : Sta s s.heap "java/lang/StringUTF16" "HI_BYTE_SHIFT" "I" (.int 0) := Sta.start (own_eqI (Cond.before_iff.mp (hsets _ (List.mem_of_getElem? (i := 15) rfl)))) (Or.inl (hsets _ (List.mem_of_getElem? (i := 14) rfl)))
  have Slo : Sta s s.heap "java/lang/StringUTF16" "LO_BYTE_SHIFT" "I" (.int 8) := Sta.start (own_eqI (Cond.before_iff.mp (hsets _ (List.mem_of_getElem? (i := 18) rfl)))) (Or.inl (hsets _ (List.mem_of_getElem? (i := 17) rfl)))
  obtain ⟨fm, efm, rfm⟩ := isR_v (Cond.before_iff.mp (hsets _ (List.mem_of_getElem? (i := 8) rfl)))
  have Sfm : Sta s s.heap "jdk/internal/util/Preconditions" "SIOOBE_FORMATTER" "Ljava/util/function/BiFunction;" fm := Sta.start efm (Or.inl (hsets _ (List.mem_of_getElem? (i := 7) rfl)))
  have own_held : ∀ p ∈ own_EL, Jvm.Lit.constHeld s p.1 p.2 := fun p hp => hcalls.1 p ((by decide : ∀ p ∈ own_EL, p ∈ consts_1) p hp)
  have hG : Glob s _ G fm := ⟨hw, SG, cG, Sas, Shi, Slo, Sfm, rfm⟩
  have hCH : CHv s own_EL s.vm s.heap := CHv.start (own_ew hw) own_held (hsets _ (List.mem_of_getElem? (i := 2) rfl)) (W 16 rfl) (W 3 rfl)
  obtain ⟨n, o, h1, h2, h3, _, L, rfl, ⟨rfl, N, -⟩, -, hq⟩ := rm0 l s _ G fm hG tables_1 i0 i1 i2 i3 i4 s.heap s.heap.size (Nat.le_refl _) (Old.start s) p e ha hc hk s m _ below hf ((Spec.applies_iff_loose hf).mp happ).1 ⟨rfl, State.Warmed39.refl s, rfl, hCH⟩ trivial
  refine ⟨n, _, h1, h2, h3, hpost _ _ _ _ _ _ ⟨Cond.after_iff.mpr rfl, Cond.after_iff.mpr (eq_i res_at (Term.int_eval (1)) rfl), trivial⟩ ⟨hq.1, hq.2.1, hq.2.2.1, (hq.2.2.2.sift fun y hy => Or.inr (N y hy)).mono (by decide) (by decide)⟩⟩
theorem main_1_1 : Claimed_1_1 := comes_1 fun _ _ _ _ _ _ h hF => ⟨h.1, hF⟩
theorem main_1_2 : Claimed_1_2 := comes_1 fun _ _ _ _ _ _ h hF => ⟨h.2.1, hF⟩
end Jvm.Pilot.@@N@@
namespace Jvm.Pilot.@@N@@
open Jvm Jvm.ClassFile Sem Op Lib Jvm.Free Jvm.Stand Jvm.Pilot.@@N@@.Jvm.D
/-! MADE BY PROGRAM (witnessworld.py) out of the Statement's table words and the real class files: 20 classes; the members and pool entries that the words name. The judged class is class 1, her method 3. -/
namespace start1
open Jvm.ClassFile
def u (s : String) : CpInfo := .utf8 (stringToUtf16 s)
/-- a pool by its gaps: so many unusable entries, then the entry; so many at the end -/
def gap : Nat → List CpInfo → List CpInfo
  | 0, r => r
  | n + 1, r => .unusable :: gap n r
def poolList (es : List (Nat × CpInfo)) (last : Nat) : List CpInfo := es.foldr (fun e r => gap e.1 (e.2 :: r)) (gap last [])
def pool (es : List (Nat × CpInfo)) (last : Nat) : Array CpInfo := ⟨poolList es last⟩
def fileOf (pool : Array CpInfo) (this : Nat) (attrs : Array Attribute := #[]) (ms : Array MethodInfo := #[]) (fl : Nat := 33) (sup : Nat := 0) (ifs : Array Nat := #[]) (fds : Array FieldInfo := #[]) : ClassFile where
  minorVersion := 0
  majorVersion := 65
  constantPool := pool
  accessFlags := fl
  thisClass := this
  superClass := sup
  interfaces := ifs
  fields := fds
  methods := ms
  attributes := attrs
def plain (name : String) (sup : Option ClassId) : Class where
  name := name
  kind := .ordinary
  loader := none
  accessFlags := 33
  super := sup
  interfaces := #[]
  cf := none
  fields := #[]
  methods := #[]
  instanceTypes := #[]
  staticTypes := #[]
  resolved := #[]
  callSites := []
  init := .initialized
  statics := none
  mirror := none

def pool0 : Array CpInfo := pool [(5, u "<init>"), (0, u "()V"), (1, .class_ 10), (1, u "java/lang/Object")] 113

def k0c0 : Code := { maxStack := 0, maxLocals := 1, code := object_method_1_code, exceptionTable := #[], attributes := #[] }
def k0m0 : Method := { name := "<init>", desc := "()V", sig := { parameters := [], returnType := none }, accessFlags := 1, code := some k0c0 }
/-- java/lang/Object -/
def k0 : Class := { plain "java/lang/Object" none with
  accessFlags := 33
  interfaces := #[]
  cf := some (fileOf pool0 8 #[] #[{ accessFlags := 1, nameIndex := 5, descriptorIndex := 6, attributes := #[] }] 33 0 #[] #[])
  fields := #[]
  methods := #[k0m0]
  instanceTypes := #[]
  staticTypes := #[]
  resolved := Array.replicate 124 none
  statics := none }

def pool1 : Array CpInfo := pool [(2, .class_ 4), (1, u "java/lang/Object"), (0, u "<init>"), (0, u "()V"), (0, .methodref 8 9), (0, .class_ 10), (0, .nameAndType 11 12), (0, u "com/example/label_lattice/labellattice/NamesIsValidPinLaw"), (0, u "letter"), (0, u "(C)Z"), (0, .integer 2147483647), (0, .integer 65535), (0, .class_ 16), (0, u "java/lang/String"), (0, .methodref 15 18), (0, .nameAndType 5 19), (0, u "([C)V"), (0, .methodref 8 21), (0, .nameAndType 22 12), (0, u "wordChar"), (0, .methodref 24 25), (0, .class_ 26), (0, .nameAndType 27 28), (0, u "com/example/label_lattice/labellattice/Names"), (0, u "isValid"), (0, u "(Ljava/lang/String;)Z"), (3, u "law"), (0, u "(IIIII)Z")] 4

def k1m0 : Method := { name := "<init>", desc := "()V", sig := { parameters := [], returnType := none }, accessFlags := 1, code := none }
def k1c1 : Code := { maxStack := 2, maxLocals := 1, code := method_2_code, exceptionTable := #[], attributes := #[] }
def k1m1 : Method := { name := "letter", desc := "(C)Z", sig := { parameters := [.char], returnType := some .boolean }, accessFlags := 10, code := some k1c1 }
def k1c2 : Code := { maxStack := 2, maxLocals := 1, code := method_3_code, exceptionTable := #[], attributes := #[] }
def k1m2 : Method := { name := "wordChar", desc := "(C)Z", sig := { parameters := [.char], returnType := some .boolean }, accessFlags := 10, code := some k1c2 }
def k1c3 : Code := { maxStack := 3, maxLocals := 15, code := code, exceptionTable := #[], attributes := #[] }
def k1m3 : Method := { name := "law", desc := "(IIIII)Z", sig := { parameters := [.int, .int, .int, .int, .int], returnType := some .boolean }, accessFlags := 9, code := some k1c3 }
/-- com/example/label_lattice/labellattice/NamesIsValidPinLaw -/
def k1 : Class := { plain "com/example/label_lattice/labellattice/NamesIsValidPinLaw" (some 0) with
  accessFlags := 49
  interfaces := #[]
  cf := some (fileOf pool1 8 #[] #[{ accessFlags := 1, nameIndex := 5, descriptorIndex := 6, attributes := #[] }, { accessFlags := 10, nameIndex := 11, descriptorIndex := 12, attributes := #[] }, { accessFlags := 10, nameIndex := 22, descriptorIndex := 12, attributes := #[] }, { accessFlags := 9, nameIndex := 32, descriptorIndex := 33, attributes := #[] }] 49 2 #[] #[])
  fields := #[]
  methods := #[k1m0, k1m1, k1m2, k1m3]
  instanceTypes := #[]
  staticTypes := #[]
  resolved := Array.replicate 38 none
  statics := none }

def pool2 : Array CpInfo := pool [(1, .class_ 2), (0, u "java/io/Serializable"), (0, .class_ 4), (0, u "java/lang/Object")] 2

/-- java/io/Serializable -/
def k2 : Class := { plain "java/io/Serializable" (some 0) with
  accessFlags := 1537
  interfaces := #[]
  cf := some (fileOf pool2 1 #[] #[] 1537 3 #[] #[])
  fields := #[]
  methods := #[]
  instanceTypes := #[]
  staticTypes := #[]
  resolved := Array.replicate 7 none
  statics := none }

def pool3 : Array CpInfo := pool [(1, .class_ 2), (0, u "java/lang/Comparable"), (0, .class_ 4), (0, u "java/lang/Object")] 7

/-- java/lang/Comparable -/
def k3 : Class := { plain "java/lang/Comparable" (some 0) with
  accessFlags := 1537
  interfaces := #[]
  cf := some (fileOf pool3 1 #[] #[] 1537 3 #[] #[])
  fields := #[]
  methods := #[]
  instanceTypes := #[]
  staticTypes := #[]
  resolved := Array.replicate 12 none
  statics := none }

def pool4 : Array CpInfo := pool [(2, .class_ 4), (1, u "java/lang/CharSequence"), (42, .class_ 48), (0, u "java/lang/CharSequence$1CodePointIterator"), (10, .class_ 60), (0, u "java/lang/CharSequence$1CharIterator"), (5, .class_ 67), (0, u "java/lang/Object")] 63

/-- java/lang/CharSequence -/
def k4 : Class := { plain "java/lang/CharSequence" (some 0) with
  accessFlags := 1537
  interfaces := #[]
  cf := some (fileOf pool4 2 #[.nestMembers #[47, 59]] #[] 1537 66 #[] #[])
  fields := #[]
  methods := #[]
  instanceTypes := #[]
  staticTypes := #[]
  resolved := Array.replicate 131 none
  statics := none }

def pool5 : Array CpInfo := pool [(1, .class_ 2), (0, u "java/lang/constant/Constable"), (0, .class_ 4), (0, u "java/lang/Object")] 6

/-- java/lang/constant/Constable -/
def k5 : Class := { plain "java/lang/constant/Constable" (some 0) with
  accessFlags := 1537
  interfaces := #[]
  cf := some (fileOf pool5 1 #[] #[] 1537 3 #[] #[])
  fields := #[]
  methods := #[]
  instanceTypes := #[]
  staticTypes := #[]
  resolved := Array.replicate 11 none
  statics := none }

def pool6 : Array CpInfo := pool [(1, .class_ 2), (0, u "java/lang/constant/ConstantDesc"), (0, .class_ 4), (0, u "java/lang/Object")] 32

/-- java/lang/constant/ConstantDesc -/
def k6 : Class := { plain "java/lang/constant/ConstantDesc" (some 0) with
  accessFlags := 1537
  interfaces := #[]
  cf := some (fileOf pool6 1 #[] #[] 1537 3 #[] #[])
  fields := #[]
  methods := #[]
  instanceTypes := #[]
  staticTypes := #[]
  resolved := Array.replicate 37 none
  statics := none }

def pool7 : Array CpInfo := pool [(1, .methodref 2 3), (0, .class_ 4), (0, .nameAndType 5 6), (0, u "java/lang/Object"), (0, u "<init>"), (0, u "()V"), (0, .string 8), (0, u ""), (0, .fieldref 10 11), (0, .class_ 12), (0, .nameAndType 13 14), (0, u "java/lang/String"), (0, u "value"), (0, u "[B"), (0, .fieldref 10 16), (0, .nameAndType 17 18), (0, u "coder"), (0, u "B"), (2, u "hash"), (0, u "I"), (2, u "hashIsZero"), (0, u "Z"), (0, .methodref 10 28), (0, .nameAndType 5 29), (0, u "([CIILjava/lang/Void;)V"), (8, .fieldref 10 39), (0, .nameAndType 40 26), (0, u "COMPACT_STRINGS"), (1, .class_ 44), (1, u "java/lang/StringUTF16"), (0, u "compress"), (1, .methodref 42 48), (0, .nameAndType 49 50), (0, u "coderFromArrayLen"), (0, u "([BI)B"), (56, .class_ 109), (1, u "java/lang/StringLatin1"), (32, u "()Z"), (34, .methodref 42 178), (0, .nameAndType 45 179), (0, u "([CII)[B"), (154, u "()I"), (0, .methodref 10 336), (0, .nameAndType 17 337), (0, u "()B"), (25, u "([BI)C"), (27, u "(II)V"), (35, u "(I)C"), (64, .methodref 10 493), (0, .nameAndType 494 142), (0, u "isLatin1"), (0, .methodref 107 496), (0, .nameAndType 497 363), (0, u "charAt"), (0, .methodref 42 496), (2, u "checkIndex"), (5, u "length"), (67, .class_ 576), (0, u "java/lang/CharSequence"), (22, u "CASE_INSENSITIVE_ORDER"), (0, u "Ljava/util/Comparator;"), (409, u "([C)V"), (42, .fieldref 1054 1055), (0, .class_ 1056), (0, .nameAndType 1057 1058), (0, u "jdk/internal/util/Preconditions"), (0, u "SIOOBE_FORMATTER"), (0, u "Ljava/util/function/BiFunction;"), (0, .methodref 1054 1060), (0, .nameAndType 501 1061), (0, u "(IILjava/util/function/BiFunction;)I"), (39, u "serialPersistentFields"), (0, u "[Ljava/io/ObjectStreamField;"), (0, .class_ 1104), (0, u "java/lang/String$CaseInsensitiveComparator"), (1, .class_ 1107), (0, u "java/io/Serializable"), (0, .class_ 1109), (0, u "java/lang/Comparable"), (0, .class_ 1111), (0, u "java/lang/constant/Constable"), (0, .class_ 1113), (0, u "java/lang/constant/ConstantDesc"), (2, u "serialVersionUID"), (0, u "J"), (3, u "REPL"), (0, u "C"), (2, u "LATIN1"), (1, u "UTF16")] 323

def k7m0 : Method := { name := "<init>", desc := "()V", sig := { parameters := [], returnType := none }, accessFlags := 1, code := none }
def k7c1 : Code := { maxStack := 5, maxLocals := 2, code := jdk_42_method_3_code, exceptionTable := #[], attributes := #[] }
def k7m1 : Method := { name := "<init>", desc := "([C)V", sig := { parameters := [(.array .char)], returnType := none }, accessFlags := 1, code := some k7c1 }
def k7c2 : Code := { maxStack := 2, maxLocals := 1, code := jdk_42_method_54_code, exceptionTable := #[], attributes := #[] }
def k7m2 : Method := { name := "length", desc := "()I", sig := { parameters := [], returnType := some .int }, accessFlags := 1, code := some k7c2 }
def k7c3 : Code := { maxStack := 2, maxLocals := 2, code := jdk_42_method_56_code, exceptionTable := #[], attributes := #[] }
def k7m3 : Method := { name := "charAt", desc := "(I)C", sig := { parameters := [.int], returnType := some .char }, accessFlags := 1, code := some k7c3 }
def k7c4 : Code := { maxStack := 4, maxLocals := 6, code := jdk_42_method_149_code, exceptionTable := #[], attributes := #[] }
def k7m4 : Method := { name := "<init>", desc := "([CIILjava/lang/Void;)V", sig := { parameters := [(.array .char), .int, .int, (.object "java/lang/Void")], returnType := none }, accessFlags := 2, code := some k7c4 }
def k7c5 : Code := { maxStack := 1, maxLocals := 1, code := jdk_42_method_152_code, exceptionTable := #[], attributes := #[] }
def k7m5 : Method := { name := "coder", desc := "()B", sig := { parameters := [], returnType := some .byte }, accessFlags := 0, code := some k7c5 }
def k7c6 : Code := { maxStack := 1, maxLocals := 1, code := jdk_42_method_154_code, exceptionTable := #[], attributes := #[] }
def k7m6 : Method := { name := "isLatin1", desc := "()Z", sig := { parameters := [], returnType := some .boolean }, accessFlags := 0, code := some k7c6 }
def k7c7 : Code := { maxStack := 3, maxLocals := 2, code := jdk_42_method_155_code, exceptionTable := #[], attributes := #[] }
def k7m7 : Method := { name := "checkIndex", desc := "(II)V", sig := { parameters := [.int, .int], returnType := none }, accessFlags := 8, code := some k7c7 }
/-- java/lang/String -/
def k7 : Class := { plain "java/lang/String" (some 0) with
  accessFlags := 49
  interfaces := #[2, 3, 4, 5, 6]
  cf := some (fileOf pool7 10 #[.nestMembers #[1103]] #[{ accessFlags := 1, nameIndex := 5, descriptorIndex := 6, attributes := #[] }, { accessFlags := 1, nameIndex := 5, descriptorIndex := 1010, attributes := #[] }, { accessFlags := 1, nameIndex := 507, descriptorIndex := 334, attributes := #[] }, { accessFlags := 1, nameIndex := 497, descriptorIndex := 427, attributes := #[] }, { accessFlags := 2, nameIndex := 5, descriptorIndex := 29, attributes := #[] }, { accessFlags := 0, nameIndex := 17, descriptorIndex := 337, attributes := #[] }, { accessFlags := 0, nameIndex := 494, descriptorIndex := 142, attributes := #[] }, { accessFlags := 8, nameIndex := 501, descriptorIndex := 391, attributes := #[] }] 49 2 #[1106, 1108, 575, 1110, 1112] #[{ accessFlags := 18, nameIndex := 13, descriptorIndex := 14, attributes := #[] }, { accessFlags := 18, nameIndex := 17, descriptorIndex := 18, attributes := #[] }, { accessFlags := 2, nameIndex := 21, descriptorIndex := 22, attributes := #[] }, { accessFlags := 2, nameIndex := 25, descriptorIndex := 26, attributes := #[] }, { accessFlags := 26, nameIndex := 1116, descriptorIndex := 1117, attributes := #[] }, { accessFlags := 24, nameIndex := 40, descriptorIndex := 26, attributes := #[] }, { accessFlags := 26, nameIndex := 1101, descriptorIndex := 1102, attributes := #[] }, { accessFlags := 26, nameIndex := 1121, descriptorIndex := 1122, attributes := #[] }, { accessFlags := 25, nameIndex := 599, descriptorIndex := 600, attributes := #[] }, { accessFlags := 24, nameIndex := 1125, descriptorIndex := 18, attributes := #[] }, { accessFlags := 24, nameIndex := 1127, descriptorIndex := 18, attributes := #[] }])
  fields := #[{ name := "value", type := (.array .byte), accessFlags := 18, slot := 0, constantValue := 0 }, { name := "coder", type := .byte, accessFlags := 18, slot := 1, constantValue := 0 }, { name := "hash", type := .int, accessFlags := 2, slot := 2, constantValue := 0 }, { name := "hashIsZero", type := .boolean, accessFlags := 2, slot := 3, constantValue := 0 }, { name := "serialVersionUID", type := .long, accessFlags := 26, slot := 0, constantValue := 0 }, { name := "COMPACT_STRINGS", type := .boolean, accessFlags := 24, slot := 1, constantValue := 0 }, { name := "serialPersistentFields", type := (.array (.object "java/io/ObjectStreamField")), accessFlags := 26, slot := 2, constantValue := 0 }, { name := "REPL", type := .char, accessFlags := 26, slot := 3, constantValue := 0 }, { name := "CASE_INSENSITIVE_ORDER", type := (.object "java/util/Comparator"), accessFlags := 25, slot := 4, constantValue := 0 }, { name := "LATIN1", type := .byte, accessFlags := 24, slot := 5, constantValue := 0 }, { name := "UTF16", type := .byte, accessFlags := 24, slot := 6, constantValue := 0 }]
  methods := #[k7m0, k7m1, k7m2, k7m3, k7m4, k7m5, k7m6, k7m7]
  instanceTypes := #[(.array .byte), .byte, .int, .boolean]
  staticTypes := #[.long, .boolean, (.array (.object "java/io/ObjectStreamField")), .char, (.object "java/util/Comparator"), .byte, .byte]
  resolved := Array.replicate 1451 none
  statics := some 0 }

def pool8 : Array CpInfo := pool [(2, .class_ 4), (1, u "java/lang/Object"), (0, u "<init>"), (0, u "()V"), (0, .methodref 8 9), (0, .class_ 10), (0, .nameAndType 11 12), (0, u "java/lang/String"), (0, u "length"), (0, u "()I"), (0, .class_ 14), (0, u "com/example/label_lattice/labellattice/Names"), (0, .methodref 8 16), (0, .nameAndType 17 18), (0, u "charAt"), (0, u "(I)C"), (0, .methodref 13 20), (0, .nameAndType 21 22), (0, u "isAsciiLetter"), (0, u "(C)Z"), (0, .methodref 13 24), (0, .nameAndType 25 22), (0, u "isAsciiDigit"), (2, u "isValid"), (0, u "(Ljava/lang/String;)Z"), (14, u "MAX_LENGTH"), (0, u "I")] 29

def k8m0 : Method := { name := "<init>", desc := "()V", sig := { parameters := [], returnType := none }, accessFlags := 2, code := none }
def k8c1 : Code := { maxStack := 2, maxLocals := 4, code := prog_27_method_2_code, exceptionTable := #[], attributes := #[] }
def k8m1 : Method := { name := "isValid", desc := "(Ljava/lang/String;)Z", sig := { parameters := [(.object "java/lang/String")], returnType := some .boolean }, accessFlags := 9, code := some k8c1 }
def k8c2 : Code := { maxStack := 2, maxLocals := 1, code := prog_27_method_5_code, exceptionTable := #[], attributes := #[] }
def k8m2 : Method := { name := "isAsciiLetter", desc := "(C)Z", sig := { parameters := [.char], returnType := some .boolean }, accessFlags := 10, code := some k8c2 }
def k8c3 : Code := { maxStack := 2, maxLocals := 1, code := prog_27_method_6_code, exceptionTable := #[], attributes := #[] }
def k8m3 : Method := { name := "isAsciiDigit", desc := "(C)Z", sig := { parameters := [.char], returnType := some .boolean }, accessFlags := 10, code := some k8c3 }
/-- com/example/label_lattice/labellattice/Names -/
def k8 : Class := { plain "com/example/label_lattice/labellattice/Names" (some 0) with
  accessFlags := 49
  interfaces := #[]
  cf := some (fileOf pool8 13 #[] #[{ accessFlags := 2, nameIndex := 5, descriptorIndex := 6, attributes := #[] }, { accessFlags := 9, nameIndex := 28, descriptorIndex := 29, attributes := #[] }, { accessFlags := 10, nameIndex := 21, descriptorIndex := 22, attributes := #[] }, { accessFlags := 10, nameIndex := 25, descriptorIndex := 22, attributes := #[] }] 49 2 #[] #[{ accessFlags := 25, nameIndex := 44, descriptorIndex := 45, attributes := #[] }])
  fields := #[{ name := "MAX_LENGTH", type := .int, accessFlags := 25, slot := 0, constantValue := 0 }]
  methods := #[k8m0, k8m1, k8m2, k8m3]
  instanceTypes := #[]
  staticTypes := #[.int]
  resolved := Array.replicate 75 none
  statics := none }

def pool9 : Array CpInfo := pool [(3, .class_ 4), (0, u "java/lang/String"), (1, .class_ 8), (1, u "java/lang/Object"), (0, u "<init>"), (0, u "()V"), (0, .methodref 12 13), (0, .class_ 14), (0, .nameAndType 15 16), (0, u "java/lang/StringUTF16"), (0, u "newBytesLength"), (0, u "(I)I"), (3, .integer 1073741823), (23, .fieldref 12 45), (0, .nameAndType 46 47), (0, u "$assertionsDisabled"), (0, u "Z"), (0, .methodref 12 49), (0, .nameAndType 50 51), (0, u "length"), (0, u "([B)I"), (7, .fieldref 12 60), (0, .nameAndType 61 62), (0, u "HI_BYTE_SHIFT"), (0, u "I"), (0, .fieldref 12 64), (0, .nameAndType 65 62), (0, u "LO_BYTE_SHIFT"), (1, .methodref 12 68), (0, .nameAndType 69 70), (0, u "checkIndex"), (0, u "(I[B)V"), (0, .methodref 12 72), (0, .nameAndType 73 74), (0, u "getChar"), (0, u "([BI)C"), (32, .methodref 12 108), (0, .nameAndType 109 110), (0, u "newBytesFor"), (0, u "(I)[B"), (0, .methodref 12 112), (0, .nameAndType 113 114), (0, u "putChar"), (0, u "([BII)V"), (0, .methodref 12 116), (0, .nameAndType 117 118), (0, u "compress"), (0, u "([CI[BII)I"), (0, .methodref 12 120), (0, .nameAndType 121 122), (0, u "toBytes"), (0, u "([CII)[B"), (138, u "coderFromArrayLen"), (0, u "([BI)B"), (106, .class_ 371), (1, u "java/lang/StringUTF16$LinesSpliterator"), (20, u "charAt"), (21, .methodref 3 415), (0, .nameAndType 69 416), (0, u "(II)V"), (13, u "MAX_LENGTH"), (196, .class_ 628), (0, u "java/lang/StringUTF16$CodePointsSpliterator"), (0, .class_ 630), (0, u "java/lang/StringUTF16$CharsSpliterator")] 4

def k9m0 : Method := { name := "<init>", desc := "()V", sig := { parameters := [], returnType := none }, accessFlags := 0, code := none }
def k9c1 : Code := { maxStack := 1, maxLocals := 1, code := jdk_52_method_2_code, exceptionTable := #[], attributes := #[] }
def k9m1 : Method := { name := "newBytesFor", desc := "(I)[B", sig := { parameters := [.int], returnType := some (.array .byte) }, accessFlags := 9, code := some k9c1 }
def k9c2 : Code := { maxStack := 4, maxLocals := 1, code := jdk_52_method_3_code, exceptionTable := #[], attributes := #[] }
def k9m2 : Method := { name := "newBytesLength", desc := "(I)I", sig := { parameters := [.int], returnType := some .int }, accessFlags := 9, code := some k9c2 }
def k9c3 : Code := { maxStack := 4, maxLocals := 3, code := jdk_52_method_4_code, exceptionTable := #[], attributes := #[] }
def k9m3 : Method := { name := "putChar", desc := "([BII)V", sig := { parameters := [(.array .byte), .int, .int], returnType := none }, accessFlags := 8, code := some k9c3 }
def k9c4 : Code := { maxStack := 3, maxLocals := 2, code := jdk_52_method_5_code, exceptionTable := #[], attributes := #[] }
def k9m4 : Method := { name := "getChar", desc := "([BI)C", sig := { parameters := [(.array .byte), .int], returnType := some .char }, accessFlags := 8, code := some k9c4 }
def k9c5 : Code := { maxStack := 2, maxLocals := 1, code := jdk_52_method_6_code, exceptionTable := #[], attributes := #[] }
def k9m5 : Method := { name := "length", desc := "([B)I", sig := { parameters := [(.array .byte)], returnType := some .int }, accessFlags := 9, code := some k9c5 }
def k9c6 : Code := { maxStack := 4, maxLocals := 5, code := jdk_52_method_14_code, exceptionTable := #[], attributes := #[] }
def k9m6 : Method := { name := "toBytes", desc := "([CII)[B", sig := { parameters := [(.array .char), .int, .int], returnType := some (.array .byte) }, accessFlags := 9, code := some k9c6 }
def k9c7 : Code := { maxStack := 2, maxLocals := 2, code := jdk_52_method_15_code, exceptionTable := #[], attributes := #[] }
def k9m7 : Method := { name := "coderFromArrayLen", desc := "([BI)B", sig := { parameters := [(.array .byte), .int], returnType := some .byte }, accessFlags := 8, code := some k9c7 }
def k9c8 : Code := { maxStack := 5, maxLocals := 6, code := jdk_52_method_16_code, exceptionTable := #[], attributes := #[] }
def k9m8 : Method := { name := "compress", desc := "([CII)[B", sig := { parameters := [(.array .char), .int, .int], returnType := some (.array .byte) }, accessFlags := 9, code := some k9c8 }
def k9c9 : Code := { maxStack := 3, maxLocals := 7, code := jdk_52_method_21_code, exceptionTable := #[], attributes := #[] }
def k9m9 : Method := { name := "compress", desc := "([CI[BII)I", sig := { parameters := [(.array .char), .int, (.array .byte), .int, .int], returnType := some .int }, accessFlags := 9, code := some k9c9 }
def k9c10 : Code := { maxStack := 2, maxLocals := 2, code := jdk_52_method_83_code, exceptionTable := #[], attributes := #[] }
def k9m10 : Method := { name := "charAt", desc := "([BI)C", sig := { parameters := [(.array .byte), .int], returnType := some .char }, accessFlags := 9, code := some k9c10 }
def k9c11 : Code := { maxStack := 2, maxLocals := 2, code := jdk_52_method_91_code, exceptionTable := #[], attributes := #[] }
def k9m11 : Method := { name := "checkIndex", desc := "(I[B)V", sig := { parameters := [.int, (.array .byte)], returnType := none }, accessFlags := 9, code := some k9c11 }
/-- java/lang/StringUTF16 -/
def k9 : Class := { plain "java/lang/StringUTF16" (some 0) with
  accessFlags := 48
  interfaces := #[]
  cf := some (fileOf pool9 12 #[.nestMembers #[627, 629, 369]] #[{ accessFlags := 0, nameIndex := 9, descriptorIndex := 10, attributes := #[] }, { accessFlags := 9, nameIndex := 109, descriptorIndex := 110, attributes := #[] }, { accessFlags := 9, nameIndex := 15, descriptorIndex := 16, attributes := #[] }, { accessFlags := 8, nameIndex := 113, descriptorIndex := 114, attributes := #[] }, { accessFlags := 8, nameIndex := 73, descriptorIndex := 74, attributes := #[] }, { accessFlags := 9, nameIndex := 50, descriptorIndex := 51, attributes := #[] }, { accessFlags := 9, nameIndex := 121, descriptorIndex := 122, attributes := #[] }, { accessFlags := 8, nameIndex := 261, descriptorIndex := 262, attributes := #[] }, { accessFlags := 9, nameIndex := 117, descriptorIndex := 122, attributes := #[] }, { accessFlags := 9, nameIndex := 117, descriptorIndex := 118, attributes := #[] }, { accessFlags := 9, nameIndex := 392, descriptorIndex := 74, attributes := #[] }, { accessFlags := 9, nameIndex := 69, descriptorIndex := 70, attributes := #[] }] 48 6 #[] #[{ accessFlags := 26, nameIndex := 61, descriptorIndex := 62, attributes := #[] }, { accessFlags := 26, nameIndex := 65, descriptorIndex := 62, attributes := #[] }, { accessFlags := 24, nameIndex := 430, descriptorIndex := 62, attributes := #[] }, { accessFlags := 4120, nameIndex := 46, descriptorIndex := 47, attributes := #[] }])
  fields := #[{ name := "HI_BYTE_SHIFT", type := .int, accessFlags := 26, slot := 0, constantValue := 0 }, { name := "LO_BYTE_SHIFT", type := .int, accessFlags := 26, slot := 1, constantValue := 0 }, { name := "MAX_LENGTH", type := .int, accessFlags := 24, slot := 2, constantValue := 0 }, { name := "$assertionsDisabled", type := .boolean, accessFlags := 4120, slot := 3, constantValue := 0 }]
  methods := #[k9m0, k9m1, k9m2, k9m3, k9m4, k9m5, k9m6, k9m7, k9m8, k9m9, k9m10, k9m11]
  instanceTypes := #[]
  staticTypes := #[.int, .int, .int, .boolean]
  resolved := Array.replicate 635 none
  statics := some 1 }

def pool10 : Array CpInfo := pool [(1, .class_ 2), (0, u "java/lang/String"), (1, .class_ 6), (1, u "java/lang/Object"), (0, u "<init>"), (0, u "()V"), (0, .methodref 1 10), (0, .nameAndType 11 12), (0, u "checkIndex"), (0, u "(II)V"), (1, .class_ 16), (1, u "java/lang/StringLatin1"), (36, u "([BI)C"), (67, u "$assertionsDisabled"), (0, u "Z"), (98, .class_ 223), (1, u "java/lang/StringLatin1$LinesSpliterator"), (28, u "charAt"), (137, .class_ 391), (0, u "java/lang/StringLatin1$CharsSpliterator")] 3

def k10m0 : Method := { name := "<init>", desc := "()V", sig := { parameters := [], returnType := none }, accessFlags := 0, code := none }
def k10c1 : Code := { maxStack := 2, maxLocals := 2, code := jdk_43_method_2_code, exceptionTable := #[], attributes := #[] }
def k10m1 : Method := { name := "charAt", desc := "([BI)C", sig := { parameters := [(.array .byte), .int], returnType := some .char }, accessFlags := 9, code := some k10c1 }
/-- java/lang/StringLatin1 -/
def k10 : Class := { plain "java/lang/StringLatin1" (some 0) with
  accessFlags := 48
  interfaces := #[]
  cf := some (fileOf pool10 14 #[.nestMembers #[390, 221]] #[{ accessFlags := 0, nameIndex := 7, descriptorIndex := 8, attributes := #[] }, { accessFlags := 9, nameIndex := 252, descriptorIndex := 53, attributes := #[] }] 48 4 #[] #[{ accessFlags := 4120, nameIndex := 121, descriptorIndex := 122, attributes := #[] }])
  fields := #[{ name := "$assertionsDisabled", type := .boolean, accessFlags := 4120, slot := 0, constantValue := 0 }]
  methods := #[k10m0, k10m1]
  instanceTypes := #[]
  staticTypes := #[.boolean]
  resolved := Array.replicate 395 none
  statics := none }

def pool11 : Array CpInfo := pool [(2, .class_ 4), (1, u "java/lang/Object"), (0, u "<init>"), (0, u "()V"), (17, .class_ 26), (1, u "jdk/internal/util/Preconditions"), (6, u "checkIndex"), (21, .class_ 56), (0, u "jdk/internal/util/Preconditions$4"), (57, .class_ 115), (0, u "jdk/internal/util/Preconditions$1"), (7, u "SIOOBE_FORMATTER"), (0, u "Ljava/util/function/BiFunction;"), (0, .class_ 126), (0, u "jdk/internal/util/Preconditions$2"), (3, u "AIOOBE_FORMATTER"), (0, .class_ 132), (0, u "jdk/internal/util/Preconditions$3"), (3, u "IOOBE_FORMATTER"), (41, u "(IILjava/util/function/BiFunction;)I")] 15

def k11m0 : Method := { name := "<init>", desc := "()V", sig := { parameters := [], returnType := none }, accessFlags := 1, code := none }
def k11c1 : Code := { maxStack := 3, maxLocals := 3, code := jdk_41_method_11_code, exceptionTable := #[], attributes := #[] }
def k11m1 : Method := { name := "checkIndex", desc := "(IILjava/util/function/BiFunction;)I", sig := { parameters := [.int, .int, (.object "java/util/function/BiFunction")], returnType := some .int }, accessFlags := 9, code := some k11c1 }
/-- jdk/internal/util/Preconditions -/
def k11 : Class := { plain "jdk/internal/util/Preconditions" (some 0) with
  accessFlags := 33
  interfaces := #[]
  cf := some (fileOf pool11 24 #[.nestMembers #[55, 131, 125, 114]] #[{ accessFlags := 1, nameIndex := 5, descriptorIndex := 6, attributes := #[] }, { accessFlags := 9, nameIndex := 33, descriptorIndex := 178, attributes := #[] }] 33 2 #[] #[{ accessFlags := 25, nameIndex := 123, descriptorIndex := 124, attributes := #[] }, { accessFlags := 25, nameIndex := 130, descriptorIndex := 124, attributes := #[] }, { accessFlags := 25, nameIndex := 136, descriptorIndex := 124, attributes := #[] }])
  fields := #[{ name := "SIOOBE_FORMATTER", type := (.object "java/util/function/BiFunction"), accessFlags := 25, slot := 0, constantValue := 0 }, { name := "AIOOBE_FORMATTER", type := (.object "java/util/function/BiFunction"), accessFlags := 25, slot := 1, constantValue := 0 }, { name := "IOOBE_FORMATTER", type := (.object "java/util/function/BiFunction"), accessFlags := 25, slot := 2, constantValue := 0 }]
  methods := #[k11m0, k11m1]
  instanceTypes := #[]
  staticTypes := #[(.object "java/util/function/BiFunction"), (.object "java/util/function/BiFunction"), (.object "java/util/function/BiFunction")]
  resolved := Array.replicate 194 none
  statics := some 2 }

def pool12 : Array CpInfo := pool [(9, u "<init>"), (6, .class_ 18), (1, u "java/lang/Object"), (0, u "()V"), (1, .class_ 23), (1, u "jdk/internal/util/ArraysSupport"), (0, u "LOG2_ARRAY_LONG_INDEX_SCALE"), (0, u "I"), (2, u "U"), (0, u "Ljdk/internal/misc/Unsafe;"), (8, u "BIG_ENDIAN"), (0, u "Z"), (8, u "LOG2_BYTE_BIT_SIZE"), (4, u "LOG2_ARRAY_INT_INDEX_SCALE"), (54, u "JLA"), (0, u "Ljdk/internal/access/JavaLangAccess;"), (11, u "LOG2_ARRAY_BOOLEAN_INDEX_SCALE"), (9, u "LOG2_ARRAY_BYTE_INDEX_SCALE"), (5, u "LOG2_ARRAY_CHAR_INDEX_SCALE"), (5, u "LOG2_ARRAY_SHORT_INDEX_SCALE"), (18, u "LOG2_ARRAY_FLOAT_INDEX_SCALE"), (24, u "LOG2_ARRAY_DOUBLE_INDEX_SCALE"), (89, u "T_BOOLEAN"), (2, u "T_CHAR"), (1, u "T_FLOAT"), (1, u "T_DOUBLE"), (1, u "T_BYTE"), (1, u "T_SHORT"), (1, u "T_INT"), (1, u "T_LONG"), (1, u "SOFT_MAX_ARRAY_LENGTH")] 83

def k12m0 : Method := { name := "<init>", desc := "()V", sig := { parameters := [], returnType := none }, accessFlags := 2, code := none }
/-- jdk/internal/util/ArraysSupport -/
def k12 : Class := { plain "jdk/internal/util/ArraysSupport" (some 0) with
  accessFlags := 33
  interfaces := #[]
  cf := some (fileOf pool12 21 #[] #[{ accessFlags := 2, nameIndex := 9, descriptorIndex := 19, attributes := #[] }] 33 16 #[] #[{ accessFlags := 24, nameIndex := 28, descriptorIndex := 29, attributes := #[] }, { accessFlags := 26, nameIndex := 38, descriptorIndex := 39, attributes := #[] }, { accessFlags := 25, nameIndex := 121, descriptorIndex := 25, attributes := #[] }, { accessFlags := 25, nameIndex := 131, descriptorIndex := 25, attributes := #[] }, { accessFlags := 25, nameIndex := 137, descriptorIndex := 25, attributes := #[] }, { accessFlags := 25, nameIndex := 143, descriptorIndex := 25, attributes := #[] }, { accessFlags := 25, nameIndex := 53, descriptorIndex := 25, attributes := #[] }, { accessFlags := 25, nameIndex := 24, descriptorIndex := 25, attributes := #[] }, { accessFlags := 25, nameIndex := 162, descriptorIndex := 25, attributes := #[] }, { accessFlags := 25, nameIndex := 187, descriptorIndex := 25, attributes := #[] }, { accessFlags := 26, nameIndex := 48, descriptorIndex := 25, attributes := #[] }, { accessFlags := 25, nameIndex := 277, descriptorIndex := 25, attributes := #[] }, { accessFlags := 25, nameIndex := 280, descriptorIndex := 25, attributes := #[] }, { accessFlags := 25, nameIndex := 282, descriptorIndex := 25, attributes := #[] }, { accessFlags := 25, nameIndex := 284, descriptorIndex := 25, attributes := #[] }, { accessFlags := 25, nameIndex := 286, descriptorIndex := 25, attributes := #[] }, { accessFlags := 25, nameIndex := 288, descriptorIndex := 25, attributes := #[] }, { accessFlags := 25, nameIndex := 290, descriptorIndex := 25, attributes := #[] }, { accessFlags := 25, nameIndex := 292, descriptorIndex := 25, attributes := #[] }, { accessFlags := 26, nameIndex := 108, descriptorIndex := 109, attributes := #[] }, { accessFlags := 25, nameIndex := 294, descriptorIndex := 25, attributes := #[] }])
  fields := #[{ name := "U", type := (.object "jdk/internal/misc/Unsafe"), accessFlags := 24, slot := 0, constantValue := 0 }, { name := "BIG_ENDIAN", type := .boolean, accessFlags := 26, slot := 1, constantValue := 0 }, { name := "LOG2_ARRAY_BOOLEAN_INDEX_SCALE", type := .int, accessFlags := 25, slot := 2, constantValue := 0 }, { name := "LOG2_ARRAY_BYTE_INDEX_SCALE", type := .int, accessFlags := 25, slot := 3, constantValue := 0 }, { name := "LOG2_ARRAY_CHAR_INDEX_SCALE", type := .int, accessFlags := 25, slot := 4, constantValue := 0 }, { name := "LOG2_ARRAY_SHORT_INDEX_SCALE", type := .int, accessFlags := 25, slot := 5, constantValue := 0 }, { name := "LOG2_ARRAY_INT_INDEX_SCALE", type := .int, accessFlags := 25, slot := 6, constantValue := 0 }, { name := "LOG2_ARRAY_LONG_INDEX_SCALE", type := .int, accessFlags := 25, slot := 7, constantValue := 0 }, { name := "LOG2_ARRAY_FLOAT_INDEX_SCALE", type := .int, accessFlags := 25, slot := 8, constantValue := 0 }, { name := "LOG2_ARRAY_DOUBLE_INDEX_SCALE", type := .int, accessFlags := 25, slot := 9, constantValue := 0 }, { name := "LOG2_BYTE_BIT_SIZE", type := .int, accessFlags := 26, slot := 10, constantValue := 0 }, { name := "T_BOOLEAN", type := .int, accessFlags := 25, slot := 11, constantValue := 0 }, { name := "T_CHAR", type := .int, accessFlags := 25, slot := 12, constantValue := 0 }, { name := "T_FLOAT", type := .int, accessFlags := 25, slot := 13, constantValue := 0 }, { name := "T_DOUBLE", type := .int, accessFlags := 25, slot := 14, constantValue := 0 }, { name := "T_BYTE", type := .int, accessFlags := 25, slot := 15, constantValue := 0 }, { name := "T_SHORT", type := .int, accessFlags := 25, slot := 16, constantValue := 0 }, { name := "T_INT", type := .int, accessFlags := 25, slot := 17, constantValue := 0 }, { name := "T_LONG", type := .int, accessFlags := 25, slot := 18, constantValue := 0 }, { name := "JLA", type := (.object "jdk/internal/access/JavaLangAccess"), accessFlags := 26, slot := 19, constantValue := 0 }, { name := "SOFT_MAX_ARRAY_LENGTH", type := .int, accessFlags := 25, slot := 20, constantValue := 0 }]
  methods := #[k12m0]
  instanceTypes := #[]
  staticTypes := #[(.object "jdk/internal/misc/Unsafe"), .boolean, .int, .int, .int, .int, .int, .int, .int, .int, .int, .int, .int, .int, .int, .int, .int, .int, .int, (.object "jdk/internal/access/JavaLangAccess"), .int]
  resolved := Array.replicate 378 none
  statics := none }

def pool13 : Array CpInfo := pool [(1, u "java/lang/Cloneable"), (0, .class_ 1), (0, u "java/lang/Object"), (0, .class_ 3)] 3

/-- java/lang/Cloneable -/
def k13 : Class := { plain "java/lang/Cloneable" (some 0) with
  accessFlags := 1537
  interfaces := #[]
  cf := some (fileOf pool13 2 #[] #[] 1537 4 #[] #[])
  fields := #[]
  methods := #[]
  instanceTypes := #[]
  staticTypes := #[]
  resolved := Array.replicate 8 none
  statics := none }

/-- the primitive byte -/
def k14 : Class := { plain "byte" none with kind := .primitive 'B', accessFlags := 0x411 }
/-- [B -/
def k15 : Class := { plain "[B" (some 0) with kind := .array 14 .byte, interfaces := #[13, 2], accessFlags := 1041 }

/-- the primitive char -/
def k16 : Class := { plain "char" none with kind := .primitive 'C', accessFlags := 0x411 }
/-- [C -/
def k17 : Class := { plain "[C" (some 0) with kind := .array 16 .char, interfaces := #[13, 2], accessFlags := 1041 }

/-- the primitive int -/
def k18 : Class := { plain "int" none with kind := .primitive 'I', accessFlags := 0x411 }
/-- [I -/
def k19 : Class := { plain "[I" (some 0) with kind := .array 18 .int, interfaces := #[13, 2], accessFlags := 1041 }

def heap : Heap := #[{ cls := 7, slots := #[.long 0, .int 1, .null, .int 0, .null, .int 0, .int 0], vm := .statics 7 },
  { cls := 9, slots := #[.int 0, .int 8, .int 0, .int 1], vm := .statics 9 },
  { cls := 11, slots := #[.null, .null, .null], vm := .statics 11 }]
def classes : Array Class := #[k0, k1, k2, k3, k4, k5, k6, k7, k8, k9, k10, k11, k12, k13, k14, k15, k16, k17, k18, k19]
def interned : List (Array UInt16 × Addr) := []
def slotsUsed : Nat := 14
def theMethod : MethodId := ⟨1, 3⟩
def args0 : Array Value := #[.int 2, .int 97, .int 98, .int 99, .int 100]
def aboutOver (below : List Frame) : State where
  vm := { classes := classes, interned := interned.toArray }
  heap := heap
  slotsUsed := slotsUsed
  threads := #[{ frames := .invoking theMethod args0 :: below }]
def below0 : List Frame := [.native { method := ⟨0, 0⟩, args := #[] }]
def about1 : State := aboutOver below0
def p0 : Program := .bare "" "" ""
def e0 : Env := launch0.env 0 0 0
theorem w_frames : about1.frames = Frame.invoking theMethod args0 :: below0 := rfl
set_option maxRecDepth 65536 in
theorem w_args : argsFit about1.vm theMethod args0 = true := by decide +kernel
set_option maxRecDepth 65536 in
theorem w_heap : heapFits about1 = true := by decide +kernel
set_option maxRecDepth 65536 in
theorem w_runnable : about1.curStatus? = some .runnable := by decide +kernel
set_option maxRecDepth 65536 in
theorem w_alone : about1.alone = true := by decide +kernel
set_option maxRecDepth 65536 in
theorem w_named : about1.methodNamed? x = some theMethod := by decide +kernel
set_option maxRecDepth 65536 in
theorem w_hears : about1.hears theMethod below0 = true := by decide +kernel
set_option maxRecDepth 65536 in
theorem w_ripe : about1.ripe theMethod args0 below0 = true := by decide +kernel
theorem w_running : about1.status = .running := rfl
set_option maxRecDepth 65536 in
theorem w_room : about1.hasRoom e0.platform room_1 = true :=
  launch0.hasRoom_least _ room_1 (by decide +kernel) (by decide +kernel) (by decide +kernel) (by decide +kernel) (by decide +kernel) (by decide +kernel)
theorem allAtoms_all (ts : List Jvm.Cond) (a : Array Jvm.Value) (st : Jvm.State) : (allAtoms ts).before a st = ts.all (fun c => c.before a st) := by
  induction ts with
  | nil => rfl
  | cons c t ih =>
    show (Jvm.Cond.and c (allAtoms t)).before a st = _
    rw [Jvm.Cond.before_and, ih, List.all_cons]
def words1 : List Jvm.Cond := Jvm.Cond.code x code maxLocals ret :: tables_1
/-- a 'code' word, met by the world's own term for the bytes: nothing is compared byte by byte -/
theorem code_word {y : MethodName} {bytes : ByteArray} {mx : Nat} {rt : Option FieldType} {a : Array Value} {s : State} {m : MethodId} {meth : Method} {c : Code} (h1 : s.methodNamed? y = some m) (h2 : s.vm.method? m = some meth) (h3 : meth.code = some c) (h4 : c.code = bytes)
    (h5 : (c.maxLocals == mx && c.exceptionTable.isEmpty && decide (c.maxStack ≤ mostOperands) && decide (meth.sig.returnType = rt) && !meth.locks && decide (parseMethodDescriptor y.desc = some meth.sig)) = true) : (Jvm.Cond.code y bytes mx rt).before a s = true := by
  simp only [Bool.and_eq_true, beq_iff_eq, Bool.not_eq_true', decide_eq_true_eq] at h5
  obtain ⟨⟨⟨⟨⟨g1, g2⟩, g3⟩, g4⟩, g5⟩, g6⟩ := h5
  simp [Cond.before, Cond.holds, Cond.value, h1, h2, h3, h4, g1, g2, g3, g4, g5, g6]
def isCode : Jvm.Cond → Bool
  | .code _ _ _ _ => true
  | _ => false
theorem all_split {L : List Jvm.Cond} {P : Jvm.Cond → Bool} (h1 : L.all (fun c => isCode c || P c) = true) (h2 : ∀ c ∈ L.filter isCode, P c = true) : L.all P = true := by
  refine List.all_eq_true.mpr fun c hc => ?_
  have h := List.all_eq_true.mp h1 c hc
  rcases Bool.eq_false_or_eq_true (isCode c) with hi | hi
  · exact h2 c (List.mem_filter.mpr ⟨hc, hi⟩)
  · simpa [hi] using h
set_option maxRecDepth 65536 in
theorem w_c0 : (Jvm.Cond.code x code maxLocals ret).before args0 about1 = true := code_word (m := ⟨1, 3⟩) (meth := k1m3) (c := k1c3) (by decide +kernel) rfl rfl rfl (by decide +kernel)
set_option maxRecDepth 65536 in
theorem w_c1 : (Jvm.Cond.code ({ cls := "java/lang/String", name := "<init>", desc := "([C)V" } : Jvm.MethodName) jdk_42_method_3_code (2 : Nat) (Option.none : Option Jvm.ClassFile.FieldType)).before args0 about1 = true := code_word (m := ⟨7, 1⟩) (meth := k7m1) (c := k7c1) (by decide +kernel) rfl rfl rfl (by decide +kernel)
set_option maxRecDepth 65536 in
theorem w_c2 : (Jvm.Cond.code ({ cls := "java/lang/String", name := "<init>", desc := "([CIILjava/lang/Void;)V" } : Jvm.MethodName) jdk_42_method_149_code (6 : Nat) (Option.none : Option Jvm.ClassFile.FieldType)).before args0 about1 = true := code_word (m := ⟨7, 4⟩) (meth := k7m4) (c := k7c4) (by decide +kernel) rfl rfl rfl (by decide +kernel)
set_option maxRecDepth 65536 in
theorem w_c3 : (Jvm.Cond.code ({ cls := "java/lang/Object", name := "<init>", desc := "()V" } : Jvm.MethodName) object_method_1_code (1 : Nat) (Option.none : Option Jvm.ClassFile.FieldType)).before args0 about1 = true := code_word (m := ⟨0, 0⟩) (meth := k0m0) (c := k0c0) (by decide +kernel) rfl rfl rfl (by decide +kernel)
set_option maxRecDepth 65536 in
theorem w_c4 : (Jvm.Cond.code ({ cls := "com/example/label_lattice/labellattice/Names", name := "isValid", desc := "(Ljava/lang/String;)Z" } : Jvm.MethodName) prog_27_method_2_code (4 : Nat) (Option.some Jvm.ClassFile.FieldType.boolean)).before args0 about1 = true := code_word (m := ⟨8, 1⟩) (meth := k8m1) (c := k8c1) (by decide +kernel) rfl rfl rfl (by decide +kernel)
set_option maxRecDepth 65536 in
theorem w_c5 : (Jvm.Cond.code ({ cls := "java/lang/String", name := "length", desc := "()I" } : Jvm.MethodName) jdk_42_method_54_code (1 : Nat) (Option.some Jvm.ClassFile.FieldType.int)).before args0 about1 = true := code_word (m := ⟨7, 2⟩) (meth := k7m2) (c := k7c2) (by decide +kernel) rfl rfl rfl (by decide +kernel)
set_option maxRecDepth 65536 in
theorem w_c6 : (Jvm.Cond.code ({ cls := "java/lang/String", name := "coder", desc := "()B" } : Jvm.MethodName) jdk_42_method_152_code (1 : Nat) (Option.some Jvm.ClassFile.FieldType.byte)).before args0 about1 = true := code_word (m := ⟨7, 5⟩) (meth := k7m5) (c := k7c5) (by decide +kernel) rfl rfl rfl (by decide +kernel)
set_option maxRecDepth 65536 in
theorem w_c7 : (Jvm.Cond.code ({ cls := "java/lang/StringUTF16", name := "compress", desc := "([CII)[B" } : Jvm.MethodName) jdk_52_method_16_code (6 : Nat) (Option.some (Jvm.ClassFile.FieldType.array Jvm.ClassFile.FieldType.byte))).before args0 about1 = true := code_word (m := ⟨9, 8⟩) (meth := k9m8) (c := k9c8) (by decide +kernel) rfl rfl rfl (by decide +kernel)
set_option maxRecDepth 65536 in
theorem w_c8 : (Jvm.Cond.code ({ cls := "java/lang/StringUTF16", name := "compress", desc := "([CI[BII)I" } : Jvm.MethodName) jdk_52_method_21_code (7 : Nat) (Option.some Jvm.ClassFile.FieldType.int)).before args0 about1 = true := code_word (m := ⟨9, 9⟩) (meth := k9m9) (c := k9c9) (by decide +kernel) rfl rfl rfl (by decide +kernel)
set_option maxRecDepth 65536 in
theorem w_c9 : (Jvm.Cond.code ({ cls := "java/lang/StringUTF16", name := "coderFromArrayLen", desc := "([BI)B" } : Jvm.MethodName) jdk_52_method_15_code (2 : Nat) (Option.some Jvm.ClassFile.FieldType.byte)).before args0 about1 = true := code_word (m := ⟨9, 7⟩) (meth := k9m7) (c := k9c7) (by decide +kernel) rfl rfl rfl (by decide +kernel)
set_option maxRecDepth 65536 in
theorem w_c10 : (Jvm.Cond.code ({ cls := "com/example/label_lattice/labellattice/NamesIsValidPinLaw", name := "letter", desc := "(C)Z" } : Jvm.MethodName) method_2_code (1 : Nat) (Option.some Jvm.ClassFile.FieldType.boolean)).before args0 about1 = true := code_word (m := ⟨1, 1⟩) (meth := k1m1) (c := k1c1) (by decide +kernel) rfl rfl rfl (by decide +kernel)
set_option maxRecDepth 65536 in
theorem w_c11 : (Jvm.Cond.code ({ cls := "java/lang/String", name := "charAt", desc := "(I)C" } : Jvm.MethodName) jdk_42_method_56_code (2 : Nat) (Option.some Jvm.ClassFile.FieldType.char)).before args0 about1 = true := code_word (m := ⟨7, 3⟩) (meth := k7m3) (c := k7c3) (by decide +kernel) rfl rfl rfl (by decide +kernel)
set_option maxRecDepth 65536 in
theorem w_c12 : (Jvm.Cond.code ({ cls := "java/lang/String", name := "isLatin1", desc := "()Z" } : Jvm.MethodName) jdk_42_method_154_code (1 : Nat) (Option.some Jvm.ClassFile.FieldType.boolean)).before args0 about1 = true := code_word (m := ⟨7, 6⟩) (meth := k7m6) (c := k7c6) (by decide +kernel) rfl rfl rfl (by decide +kernel)
set_option maxRecDepth 65536 in
theorem w_c13 : (Jvm.Cond.code ({ cls := "java/lang/StringLatin1", name := "charAt", desc := "([BI)C" } : Jvm.MethodName) jdk_43_method_2_code (2 : Nat) (Option.some Jvm.ClassFile.FieldType.char)).before args0 about1 = true := code_word (m := ⟨10, 1⟩) (meth := k10m1) (c := k10c1) (by decide +kernel) rfl rfl rfl (by decide +kernel)
set_option maxRecDepth 65536 in
theorem w_c14 : (Jvm.Cond.code ({ cls := "java/lang/String", name := "checkIndex", desc := "(II)V" } : Jvm.MethodName) jdk_42_method_155_code (2 : Nat) (Option.none : Option Jvm.ClassFile.FieldType)).before args0 about1 = true := code_word (m := ⟨7, 7⟩) (meth := k7m7) (c := k7c7) (by decide +kernel) rfl rfl rfl (by decide +kernel)
set_option maxRecDepth 65536 in
theorem w_c15 : (Jvm.Cond.code ({ cls := "jdk/internal/util/Preconditions", name := "checkIndex", desc := "(IILjava/util/function/BiFunction;)I" } : Jvm.MethodName) jdk_41_method_11_code (3 : Nat) (Option.some Jvm.ClassFile.FieldType.int)).before args0 about1 = true := code_word (m := ⟨11, 1⟩) (meth := k11m1) (c := k11c1) (by decide +kernel) rfl rfl rfl (by decide +kernel)
set_option maxRecDepth 65536 in
theorem w_c16 : (Jvm.Cond.code ({ cls := "com/example/label_lattice/labellattice/Names", name := "isAsciiLetter", desc := "(C)Z" } : Jvm.MethodName) prog_27_method_5_code (1 : Nat) (Option.some Jvm.ClassFile.FieldType.boolean)).before args0 about1 = true := code_word (m := ⟨8, 2⟩) (meth := k8m2) (c := k8c2) (by decide +kernel) rfl rfl rfl (by decide +kernel)
set_option maxRecDepth 65536 in
theorem w_c17 : (Jvm.Cond.code ({ cls := "com/example/label_lattice/labellattice/NamesIsValidPinLaw", name := "wordChar", desc := "(C)Z" } : Jvm.MethodName) method_3_code (1 : Nat) (Option.some Jvm.ClassFile.FieldType.boolean)).before args0 about1 = true := code_word (m := ⟨1, 2⟩) (meth := k1m2) (c := k1c2) (by decide +kernel) rfl rfl rfl (by decide +kernel)
set_option maxRecDepth 65536 in
theorem w_c18 : (Jvm.Cond.code ({ cls := "com/example/label_lattice/labellattice/Names", name := "isAsciiDigit", desc := "(C)Z" } : Jvm.MethodName) prog_27_method_6_code (1 : Nat) (Option.some Jvm.ClassFile.FieldType.boolean)).before args0 about1 = true := code_word (m := ⟨8, 3⟩) (meth := k8m3) (c := k8c3) (by decide +kernel) rfl rfl rfl (by decide +kernel)
set_option maxRecDepth 65536 in
theorem w_c19 : (Jvm.Cond.code ({ cls := "java/lang/StringUTF16", name := "toBytes", desc := "([CII)[B" } : Jvm.MethodName) jdk_52_method_14_code (5 : Nat) (Option.some (Jvm.ClassFile.FieldType.array Jvm.ClassFile.FieldType.byte))).before args0 about1 = true := code_word (m := ⟨9, 6⟩) (meth := k9m6) (c := k9c6) (by decide +kernel) rfl rfl rfl (by decide +kernel)
set_option maxRecDepth 65536 in
theorem w_c20 : (Jvm.Cond.code ({ cls := "java/lang/StringUTF16", name := "newBytesFor", desc := "(I)[B" } : Jvm.MethodName) jdk_52_method_2_code (1 : Nat) (Option.some (Jvm.ClassFile.FieldType.array Jvm.ClassFile.FieldType.byte))).before args0 about1 = true := code_word (m := ⟨9, 1⟩) (meth := k9m1) (c := k9c1) (by decide +kernel) rfl rfl rfl (by decide +kernel)
set_option maxRecDepth 65536 in
theorem w_c21 : (Jvm.Cond.code ({ cls := "java/lang/StringUTF16", name := "newBytesLength", desc := "(I)I" } : Jvm.MethodName) jdk_52_method_3_code (1 : Nat) (Option.some Jvm.ClassFile.FieldType.int)).before args0 about1 = true := code_word (m := ⟨9, 2⟩) (meth := k9m2) (c := k9c2) (by decide +kernel) rfl rfl rfl (by decide +kernel)
set_option maxRecDepth 65536 in
theorem w_c22 : (Jvm.Cond.code ({ cls := "java/lang/StringUTF16", name := "putChar", desc := "([BII)V" } : Jvm.MethodName) jdk_52_method_4_code (3 : Nat) (Option.none : Option Jvm.ClassFile.FieldType)).before args0 about1 = true := code_word (m := ⟨9, 3⟩) (meth := k9m3) (c := k9c3) (by decide +kernel) rfl rfl rfl (by decide +kernel)
set_option maxRecDepth 65536 in
theorem w_c23 : (Jvm.Cond.code ({ cls := "java/lang/StringUTF16", name := "getChar", desc := "([BI)C" } : Jvm.MethodName) jdk_52_method_5_code (2 : Nat) (Option.some Jvm.ClassFile.FieldType.char)).before args0 about1 = true := code_word (m := ⟨9, 4⟩) (meth := k9m4) (c := k9c4) (by decide +kernel) rfl rfl rfl (by decide +kernel)
set_option maxRecDepth 65536 in
theorem w_c24 : (Jvm.Cond.code ({ cls := "java/lang/StringUTF16", name := "charAt", desc := "([BI)C" } : Jvm.MethodName) jdk_52_method_83_code (2 : Nat) (Option.some Jvm.ClassFile.FieldType.char)).before args0 about1 = true := code_word (m := ⟨9, 10⟩) (meth := k9m10) (c := k9c10) (by decide +kernel) rfl rfl rfl (by decide +kernel)
set_option maxRecDepth 65536 in
theorem w_c25 : (Jvm.Cond.code ({ cls := "java/lang/StringUTF16", name := "checkIndex", desc := "(I[B)V" } : Jvm.MethodName) jdk_52_method_91_code (2 : Nat) (Option.none : Option Jvm.ClassFile.FieldType)).before args0 about1 = true := code_word (m := ⟨9, 11⟩) (meth := k9m11) (c := k9c11) (by decide +kernel) rfl rfl rfl (by decide +kernel)
set_option maxRecDepth 65536 in
theorem w_c26 : (Jvm.Cond.code ({ cls := "java/lang/StringUTF16", name := "length", desc := "([B)I" } : Jvm.MethodName) jdk_52_method_6_code (1 : Nat) (Option.some Jvm.ClassFile.FieldType.int)).before args0 about1 = true := code_word (m := ⟨9, 5⟩) (meth := k9m5) (c := k9c5) (by decide +kernel) rfl rfl rfl (by decide +kernel)
def codes1 : List Jvm.Cond := [Jvm.Cond.code x code maxLocals ret, Jvm.Cond.code ({ cls := "java/lang/String", name := "<init>", desc := "([C)V" } : Jvm.MethodName) jdk_42_method_3_code (2 : Nat) (Option.none : Option Jvm.ClassFile.FieldType), Jvm.Cond.code ({ cls := "java/lang/String", name := "<init>", desc := "([CIILjava/lang/Void;)V" } : Jvm.MethodName) jdk_42_method_149_code (6 : Nat) (Option.none : Option Jvm.ClassFile.FieldType), Jvm.Cond.code ({ cls := "java/lang/Object", name := "<init>", desc := "()V" } : Jvm.MethodName) object_method_1_code (1 : Nat) (Option.none : Option Jvm.ClassFile.FieldType), Jvm.Cond.code ({ cls := "com/example/label_lattice/labellattice/Names", name := "isValid", desc := "(Ljava/lang/String;)Z" } : Jvm.MethodName) prog_27_method_2_code (4 : Nat) (Option.some Jvm.ClassFile.FieldType.boolean), Jvm.Cond.code ({ cls := "java/lang/String", name := "length", desc := "()I" } : Jvm.MethodName) jdk_42_method_54_code (1 : Nat) (Option.some Jvm.ClassFile.FieldType.int), Jvm.Cond.code ({ cls := "java/lang/String", name := "coder", desc := "()B" } : Jvm.MethodName) jdk_42_method_152_code (1 : Nat) (Option.some Jvm.ClassFile.FieldType.byte), Jvm.Cond.code ({ cls := "java/lang/StringUTF16", name := "compress", desc := "([CII)[B" } : Jvm.MethodName) jdk_52_method_16_code (6 : Nat) (Option.some (Jvm.ClassFile.FieldType.array Jvm.ClassFile.FieldType.byte)), Jvm.Cond.code ({ cls := "java/lang/StringUTF16", name := "compress", desc := "([CI[BII)I" } : Jvm.MethodName) jdk_52_method_21_code (7 : Nat) (Option.some Jvm.ClassFile.FieldType.int), Jvm.Cond.code ({ cls := "java/lang/StringUTF16", name := "coderFromArrayLen", desc := "([BI)B" } : Jvm.MethodName) jdk_52_method_15_code (2 : Nat) (Option.some Jvm.ClassFile.FieldType.byte), Jvm.Cond.code ({ cls := "com/example/label_lattice/labellattice/NamesIsValidPinLaw", name := "letter", desc := "(C)Z" } : Jvm.MethodName) method_2_code (1 : Nat) (Option.some Jvm.ClassFile.FieldType.boolean), Jvm.Cond.code ({ cls := "java/lang/String", name := "charAt", desc := "(I)C" } : Jvm.MethodName) jdk_42_method_56_code (2 : Nat) (Option.some Jvm.ClassFile.FieldType.char), Jvm.Cond.code ({ cls := "java/lang/String", name := "isLatin1", desc := "()Z" } : Jvm.MethodName) jdk_42_method_154_code (1 : Nat) (Option.some Jvm.ClassFile.FieldType.boolean), Jvm.Cond.code ({ cls := "java/lang/StringLatin1", name := "charAt", desc := "([BI)C" } : Jvm.MethodName) jdk_43_method_2_code (2 : Nat) (Option.some Jvm.ClassFile.FieldType.char), Jvm.Cond.code ({ cls := "java/lang/String", name := "checkIndex", desc := "(II)V" } : Jvm.MethodName) jdk_42_method_155_code (2 : Nat) (Option.none : Option Jvm.ClassFile.FieldType), Jvm.Cond.code ({ cls := "jdk/internal/util/Preconditions", name := "checkIndex", desc := "(IILjava/util/function/BiFunction;)I" } : Jvm.MethodName) jdk_41_method_11_code (3 : Nat) (Option.some Jvm.ClassFile.FieldType.int), Jvm.Cond.code ({ cls := "com/example/label_lattice/labellattice/Names", name := "isAsciiLetter", desc := "(C)Z" } : Jvm.MethodName) prog_27_method_5_code (1 : Nat) (Option.some Jvm.ClassFile.FieldType.boolean), Jvm.Cond.code ({ cls := "com/example/label_lattice/labellattice/NamesIsValidPinLaw", name := "wordChar", desc := "(C)Z" } : Jvm.MethodName) method_3_code (1 : Nat) (Option.some Jvm.ClassFile.FieldType.boolean), Jvm.Cond.code ({ cls := "com/example/label_lattice/labellattice/Names", name := "isAsciiDigit", desc := "(C)Z" } : Jvm.MethodName) prog_27_method_6_code (1 : Nat) (Option.some Jvm.ClassFile.FieldType.boolean), Jvm.Cond.code ({ cls := "java/lang/StringUTF16", name := "toBytes", desc := "([CII)[B" } : Jvm.MethodName) jdk_52_method_14_code (5 : Nat) (Option.some (Jvm.ClassFile.FieldType.array Jvm.ClassFile.FieldType.byte)), Jvm.Cond.code ({ cls := "java/lang/StringUTF16", name := "newBytesFor", desc := "(I)[B" } : Jvm.MethodName) jdk_52_method_2_code (1 : Nat) (Option.some (Jvm.ClassFile.FieldType.array Jvm.ClassFile.FieldType.byte)), Jvm.Cond.code ({ cls := "java/lang/StringUTF16", name := "newBytesLength", desc := "(I)I" } : Jvm.MethodName) jdk_52_method_3_code (1 : Nat) (Option.some Jvm.ClassFile.FieldType.int), Jvm.Cond.code ({ cls := "java/lang/StringUTF16", name := "putChar", desc := "([BII)V" } : Jvm.MethodName) jdk_52_method_4_code (3 : Nat) (Option.none : Option Jvm.ClassFile.FieldType), Jvm.Cond.code ({ cls := "java/lang/StringUTF16", name := "getChar", desc := "([BI)C" } : Jvm.MethodName) jdk_52_method_5_code (2 : Nat) (Option.some Jvm.ClassFile.FieldType.char), Jvm.Cond.code ({ cls := "java/lang/StringUTF16", name := "charAt", desc := "([BI)C" } : Jvm.MethodName) jdk_52_method_83_code (2 : Nat) (Option.some Jvm.ClassFile.FieldType.char), Jvm.Cond.code ({ cls := "java/lang/StringUTF16", name := "checkIndex", desc := "(I[B)V" } : Jvm.MethodName) jdk_52_method_91_code (2 : Nat) (Option.none : Option Jvm.ClassFile.FieldType), Jvm.Cond.code ({ cls := "java/lang/StringUTF16", name := "length", desc := "([B)I" } : Jvm.MethodName) jdk_52_method_6_code (1 : Nat) (Option.some Jvm.ClassFile.FieldType.int)]
set_option maxRecDepth 65536 in
theorem codes_eq : words1.filter isCode = codes1 := rfl
theorem w_codes : ∀ c ∈ words1.filter isCode, c.before args0 about1 = true := by
  rw [codes_eq]
  intro c hc
  simp only [codes1, List.mem_cons, List.not_mem_nil, or_false] at hc
  rcases hc with rfl | rfl | rfl | rfl | rfl | rfl | rfl | rfl | rfl | rfl | rfl | rfl | rfl | rfl | rfl | rfl | rfl | rfl | rfl | rfl | rfl | rfl | rfl | rfl | rfl | rfl | rfl
  · exact w_c0
  · exact w_c1
  · exact w_c2
  · exact w_c3
  · exact w_c4
  · exact w_c5
  · exact w_c6
  · exact w_c7
  · exact w_c8
  · exact w_c9
  · exact w_c10
  · exact w_c11
  · exact w_c12
  · exact w_c13
  · exact w_c14
  · exact w_c15
  · exact w_c16
  · exact w_c17
  · exact w_c18
  · exact w_c19
  · exact w_c20
  · exact w_c21
  · exact w_c22
  · exact w_c23
  · exact w_c24
  · exact w_c25
  · exact w_c26
set_option maxRecDepth 65536 in
theorem w_t1 : (words1.take 24).all (fun c => isCode c || c.before args0 about1) = true := by decide +kernel
set_option maxRecDepth 65536 in
theorem w_t2 : ((words1.drop 24).take 24).all (fun c => isCode c || c.before args0 about1) = true := by decide +kernel
set_option maxRecDepth 65536 in
theorem w_t3 : (((words1.drop 24).drop 24).take 24).all (fun c => isCode c || c.before args0 about1) = true := by decide +kernel
set_option maxRecDepth 65536 in
theorem w_t4 : ((((words1.drop 24).drop 24).drop 24).take 24).all (fun c => isCode c || c.before args0 about1) = true := by decide +kernel
set_option maxRecDepth 65536 in
theorem w_t5 : ((((words1.drop 24).drop 24).drop 24).drop 24).all (fun c => isCode c || c.before args0 about1) = true := by decide +kernel
theorem w_tables : (allAtoms (Jvm.Cond.code x code maxLocals ret :: tables_1)).before args0 about1 = true := by
  rw [allAtoms_all]
  show words1.all (fun c => c.before args0 about1) = true
  refine all_split ?_ w_codes
  rw [← List.take_append_drop 24 words1, List.all_append, w_t1, ← List.take_append_drop 24 (words1.drop 24), List.all_append, w_t2, ← List.take_append_drop 24 ((words1.drop 24).drop 24), List.all_append, w_t3, ← List.take_append_drop 24 (((words1.drop 24).drop 24).drop 24), List.all_append, w_t4, w_t5]
  rfl
set_option maxRecDepth 65536 in
theorem w_rest : rest_1_c.before args0 about1 = true := by decide +kernel
set_option maxRecDepth 65536 in
theorem w_case : (Jvm.Cond.and given_1 narrow_1).before args0 about1 = true := by decide +kernel
set_option maxRecDepth 65536 in
theorem w_consts : constsHeld consts_1 about1 := Jvm.Lit.constsHeldB_iff.mp (by decide +kernel)
theorem w_applies : (headSpec (Jvm.Cond.code x code maxLocals ret :: tables_1) room_1).applies x e0.platform about1 = true :=
  (Spec.applies_iff w_frames).mpr ⟨w_running, w_runnable, w_alone, w_named, w_hears, w_ripe, w_room, w_tables⟩
theorem atStart : AtStart classFile x code maxLocals ret World_1 tables_1 room_1 Calls_1 rest_1 Pre_1 launch0 p0 e0 about1 theMethod args0 below0 :=
  ⟨lists_1, trivial, launch0.admits_env _ _ _, launch0.least_env, fairChoices_fair.cas, fairChoices_fair.clock, w_frames, w_args, w_heap, w_applies, ⟨w_consts, trivial⟩, w_rest, w_case⟩
end start1
theorem witness_1 : WitnessClaimed_1 := ⟨start1.p0, start1.e0, start1.about1, start1.theMethod, start1.args0, start1.below0, start1.atStart⟩
end Jvm.Pilot.@@N@@
