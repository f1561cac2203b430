import JvmDerived
import JvmDerived.Pilot.@@N@@Statement
import JvmDerived.Pilot.@@N@@Code
set_option linter.unusedVariables false
set_option linter.unusedSimpArgs false
namespace Jvm.Pilot.@@N@@
set_option maxRecDepth 65536
set_option maxHeartbeats 40000000
open Jvm Jvm.ClassFile Sem Op Lib Jvm.Free Jvm.Stand Jvm.LawKit Jvm.RoadKit Bundle Jvm.Pilot.@@N@@.Jvm.D
theorem own_cat {v : Value} (h : v.isRef = true) : v.category = 1 := by cases v <;> first | rfl | (simp [Value.isRef] at h)
theorem own_cell {h h' : Heap} {a : Addr} {c : Cell} (e : h' = h) (q : h[a]? = some c) : h'[a]? = some c := by rw [e]; exact q
theorem own_W {Z : State} {a0 : Array Value} (hw : ∀ d ∈ tables_1, d.before a0 Z = true) (i : Nat) {d : Jvm.Cond} (h : tables_1[i]? = some d) : d.before a0 Z = true := hw d (List.mem_of_getElem? h)
theorem own_ble {a b : Nat} (h : Nat.ble a b = true) : a ≤ b := Nat.le_of_ble_eq_true h
abbrev Met (l : Launch) (Z : State) (h0 : Heap) (y : MethodName) (code : ByteArray) (ml : Nat) (ret : Option FieldType) (ws : List Jvm.Cond) (R : Room) (A : Array Value) (Q : Option Value → Heap → List Loc → Prop) : Prop := MetFree l y (head1 (Jvm.Cond.code y code ml ret :: ws) R) (fun a U => a = A ∧ Z.Warmed39 U.vm ∧ U.heap = h0) (fun _ _ _ _ _ => True) (fun _ U o U' => ∃ v L, o = .returned v ∧ Q v U'.heap L ∧ FrameEnd U o U' L R.cells R.slots)
theorem own_go {l : Launch} {Z : State} {h0 : Heap} {y : MethodName} {code : ByteArray} {ml : Nat} {ret : Option FieldType} {ws : List Jvm.Cond} {R : Room} {A : Array Value} {Q : Option Value → Heap → List Loc → Prop} (own : String) (ho : y.cls = own) (hp : plainFor y = true)
    (H : ∀ (p : Program) (e : Env) (s : State) (m : MethodId) (below : List Frame) (meth : Method) (c : Code) (s₁ : State), BodyLoose p l y (head1 (Jvm.Cond.code y code ml ret :: ws) R) code ml ret e s m A below meth c s₁ → p.tables.exec = Jvm.exec → c.code = code → c.maxLocals = ml → s.vm.findClass own = some m.cls → meth.name = y.name → Stand p l e R s m A below meth c s₁ [] 0 0 → s₁.heap = h0 → Z.Warmed39 s.vm →
      ∃ s₂ o, Steps p.tables e below (s₁.setTop (entryFrame m A ml)) s₂ ∧ s₂.status = .running ∧ Ended s₂ below o ∧ ∃ v L, o = .returned v ∧ Q v s₂.heap L ∧ FrameEnd s o s₂ L R.cells R.slots) : Met l Z h0 y code ml ret ws R A Q := by
  refine MetFree.of_bodySF hp hisR ?_
  intro p e s m args below meth c s₁ Bd hml0 hP hK
  obtain ⟨ha, hZ, hh⟩ := hP
  subst ha
  subst ho
  exact H p e s m below meth c s₁ Bd Bd.exec Bd.bytes hml0 (findClass_of_methodNamed Bd.named) (name_of_methodNamed Bd.named Bd.method).1 (Stand.of_body Bd) (by rw [← hh, Bd.state]; rfl) hZ
theorem own_cr (a : Addr) : (Value.ref a).category = 1 := rfl
theorem own_ci (a : Int32) : (Value.int a).category = 1 := rfl
theorem own_cj (a : Int64) : (Value.long a).category = 2 := rfl
theorem own_cn : Value.null.category = 1 := rfl
theorem own_nar {v : Value} {t : FieldType} (ht : t.isReference = true) (h : v.isRef = true) : narrow t v = v := by
  rcases ref_cases h with rfl | ⟨a, rfl⟩ <;> cases t <;> first | rfl | (simp [FieldType.isReference] at ht)
theorem own_fits {v : Value} {t : FieldType} (ht : t.isReference = true) (h : v.isRef = true) : fits t v = true := by
  rcases ref_cases h with rfl | ⟨a, rfl⟩ <;> cases t <;> first | rfl | (simp [FieldType.isReference] at ht)
theorem own_store {l l' : Array Slot} {i : Nat} {v : Value} {o : Slot} (hold : l[i]? = some o) (ho : o = .unset ∨ ∃ w, o = .val w ∧ w.category = 1) (hv : v.category = 1) (e : l.setIfInBounds i (.val v) = l') : storeLocals l i v = some l' := by
  rw [Jvm.Free.XS.store1 hold ho hv, e]
def Glob (Z : State) (a0 : Array Value) (G1 : Int32) (fm : Value) : Prop := (∀ d ∈ tables_1, d.before a0 Z = true) ∧ (Sta Z Z.heap "java/lang/String" "COMPACT_STRINGS" "Z" (.int G1)) ∧ (¬ (G1 = (0 : Int32))) ∧ (Sta Z Z.heap "java/lang/StringUTF16" "$assertionsDisabled" "Z" (.int 1)) ∧ (Sta Z Z.heap "java/lang/StringUTF16" "HI_BYTE_SHIFT" "I" (.int 0)) ∧ (Sta Z Z.heap "java/lang/StringUTF16" "LO_BYTE_SHIFT" "I" (.int 8)) ∧ (Sta Z Z.heap "jdk/internal/util/Preconditions" "SIOOBE_FORMATTER" "Ljava/util/function/BiFunction;" fm) ∧ (fm.isRef = true)
def own_EL : List (String × Nat) := [("java/lang/String", 7)]
theorem own_ew {Z : State} {a0 : Array Value} (hw : ∀ d ∈ tables_1, d.before a0 Z = true) : EW Z a0 own_EL := by
  have W := @own_W _ _ hw
  exact EW.cons (W 22 rfl) (by decide) (EW.nil)
theorem own_sa {Z : State} {a0 : Array Value} (hw : ∀ d ∈ tables_1, d.before a0 Z = true) : ∀ a ∈ Bundle.stringAtoms, a.before a0 Z = true := fun d hd => hw d ((by decide +kernel : ∀ d ∈ Bundle.stringAtoms, d ∈ tables_1) d hd)
theorem own_mono {s t : State} {o : Outcome} {L : List Loc} {k n k' n' : Nat} (h : ReturnedEndW s o t L k n) (hk : k ≤ k') (hn : n ≤ n') : ReturnedEndW s o t L k' n' := ⟨h.1, h.2.1, h.2.2.1, h.2.2.2.mono hk hn⟩
theorem own_safeS {Z : State} {EL : List (String × Nat)} {vm : Vm} {h : Heap} {x : Addr} (hal : Z.vm.Alike vm) (E : Exa Z h x "java/lang/String") (F0 : Fld Z h x "java/lang/String" "value" "[B" .null) : Safe Z EL vm h x := fun B => by
  obtain ⟨p, hp, u, a, hb, q, hq, F, e | e⟩ := B
  · subst e
    obtain ⟨cell, cf, k, i, f, h1, h2, -, -, -, -, h7⟩ := F0
    cases (show h[q.sa]? = some q.sC from F.ha).symm.trans h1
    obtain ⟨cS, ⟨⟨-, -, -, ⟨c1, k1, i1, f1, -⟩, -, -, -, v1, -⟩, -⟩, -⟩ := F
    obtain ⟨k3, e3, -⟩ := State.fieldFound?_setVm (s := Z) hal h2
    have e4 := (show (Wst Z vm h).fieldFound? _ _ _ = _ from e3).symm.trans f1
    simp only [Option.some.injEq, Prod.mk.injEq] at e4
    rw [← e4.2.2.2, h7] at v1
    cases v1
  · subst e
    obtain ⟨cell, k, e1, e2, e3, -, -⟩ := E
    cases (show h[q.sd]? = some q.SA from F.hd).symm.trans e1
    obtain ⟨cS, -, -, f, -⟩ := F
    have f' : vm.findClass "[B" = some q.SA.cls := f
    rw [hal.findClass] at f'
    obtain ⟨k1, q1, q2⟩ := Vm.findClass_spec f'
    obtain ⟨k2, q3, q4⟩ := Vm.findClass_spec e2
    cases q1.symm.trans q3
    exact absurd (q2.symm.trans q4) (by decide)
def own_u16 (c : Int32) : Prop := ¬ c < 0 ∧ ¬ (65535 : Int32) < c
theorem own_rng {c : Int32} (h : own_u16 c) : 0 ≤ c.toInt ∧ c.toInt < 65536 := by
  obtain ⟨h1, h2⟩ := h
  rw [Int32.lt_iff_toInt_lt] at h1 h2
  have e1 : (0 : Int32).toInt = 0 := rfl
  have e2 : (65535 : Int32).toInt = 65535 := rfl
  omega
theorem own_of_rng {c : Int32} (h : 0 ≤ c.toInt ∧ c.toInt < 65536) : own_u16 c := by
  constructor <;> rw [Int32.lt_iff_toInt_lt]
  · have e1 : (0 : Int32).toInt = 0 := rfl
    omega
  · have e2 : (65535 : Int32).toInt = 65535 := rfl
    omega
theorem own_i2c (x : Int32) : own_u16 (x.toUInt32.toUInt16.toUInt32.toInt32) := own_of_rng (by have := c_i2c x; omega)
theorem own_n16 {c : Int32} (h : own_u16 c) : nar .char c = c := by
  apply Int32.toInt_inj.mp
  have h1 := own_rng h
  have h2 := c_i2c c
  show c.toUInt32.toUInt16.toUInt32.toInt32.toInt = c.toInt
  omega
theorem own_lc {c : Int32} (h : own_u16 c) (hl : ¬ (255 : Int32) < c) : nar .char (((c.toInt8.toInt32).toInt8.toInt32 &&& (255 : Int32)).toUInt32.toUInt16.toUInt32.toInt32) = c := by
  apply Int32.toInt_inj.mp
  have h1 := own_rng h
  rw [Int32.lt_iff_toInt_lt] at hl
  have e2 : (255 : Int32).toInt = 255 := rfl
  have a1 := c_i2b c
  have a2 := c_i2b (c.toInt8.toInt32)
  have a3 := c_mask ((c.toInt8.toInt32).toInt8.toInt32) 255 8 (by decide) (by decide)
  have a4 := c_i2c ((c.toInt8.toInt32).toInt8.toInt32 &&& (255 : Int32))
  have a5 := c_i2c (((c.toInt8.toInt32).toInt8.toInt32 &&& (255 : Int32)).toUInt32.toUInt16.toUInt32.toInt32)
  show (((c.toInt8.toInt32).toInt8.toInt32 &&& (255 : Int32)).toUInt32.toUInt16.toUInt32.toInt32).toUInt32.toUInt16.toUInt32.toInt32.toInt = c.toInt
  omega
theorem own_gc {c hi lo : Int32} (h : own_u16 c) (eh : hi = (((c >>> ((0 : Int32) &&& 31)).toInt8.toInt32).toInt8.toInt32)) (el : lo = (((c >>> ((8 : Int32) &&& 31)).toInt8.toInt32).toInt8.toInt32)) : nar .char ((((hi &&& (255 : Int32)) <<< ((0 : Int32) &&& 31)) ||| ((lo &&& (255 : Int32)) <<< ((8 : Int32) &&& 31))).toUInt32.toUInt16.toUInt32.toInt32) = c := by
  apply Int32.toInt_inj.mp
  have h1 := own_rng h
  have a1 := c_ishr c 0 0 (by decide)
  have a2 := c_ishr c 8 8 (by decide)
  have b1 := c_i2b (c >>> ((0 : Int32) &&& 31))
  have b2 := c_i2b ((c >>> ((0 : Int32) &&& 31)).toInt8.toInt32)
  have b3 := c_i2b (c >>> ((8 : Int32) &&& 31))
  have b4 := c_i2b ((c >>> ((8 : Int32) &&& 31)).toInt8.toInt32)
  rw [← eh] at b2
  rw [← el] at b4
  have m1 := c_mask hi 255 8 (by decide) (by decide)
  have m2 := c_mask lo 255 8 (by decide) (by decide)
  have s1 := c_ishl (hi &&& (255 : Int32)) 0 0 (by decide)
  have s2 := c_ishl (lo &&& (255 : Int32)) 8 8 (by decide)
  have r1 := rng32 ((hi &&& (255 : Int32)) <<< ((0 : Int32) &&& 31))
  have r2 := rng32 ((lo &&& (255 : Int32)) <<< ((8 : Int32) &&& 31))
  generalize (hi &&& (255 : Int32)) <<< ((0 : Int32) &&& 31) = s at s1 r1 ⊢
  generalize (lo &&& (255 : Int32)) <<< ((8 : Int32) &&& 31) = t at s2 r2 ⊢
  generalize (hi &&& (255 : Int32)).toInt = mh at m1 s1
  generalize (lo &&& (255 : Int32)).toInt = ml at m2 s2
  generalize (c >>> ((0 : Int32) &&& 31)).toInt8.toInt32.toInt = u at b1 b2
  generalize (c >>> ((8 : Int32) &&& 31)).toInt8.toInt32.toInt = w at b3 b4
  generalize (c >>> ((0 : Int32) &&& 31)).toInt = x at a1 b1
  generalize (c >>> ((8 : Int32) &&& 31)).toInt = y at a2 b3
  simp only [Nat.reducePow] at a1 a2 m1 m2 s1 s2
  have e1 : s.toInt = c.toInt % 256 := by omega
  have e2 : t.toInt = (c.toInt / 256) * 256 := by omega
  have o1 := c_or' s t 8 (by decide) 256 rfl (by omega) (by omega) (by omega)
  have a4 := c_i2c (s ||| t)
  have a5 := c_i2c ((s ||| t).toUInt32.toUInt16.toUInt32.toInt32)
  show ((s ||| t).toUInt32.toUInt16.toUInt32.toInt32).toUInt32.toUInt16.toUInt32.toInt32.toInt = c.toInt
  omega
def own_lb (c : Int32) : Value := .int ((c.toInt8.toInt32).toInt8.toInt32)
def own_hb (c : Int32) : Int32 := (((c >>> ((0 : Int32) &&& 31)).toInt8.toInt32).toInt8.toInt32)
def own_ob (c : Int32) : Int32 := (((c >>> ((8 : Int32) &&& 31)).toInt8.toInt32).toInt8.toInt32)
def own_wb : List Int32 → List Value
  | [] => []
  | c :: cs => .int (own_hb c) :: .int (own_ob c) :: own_wb cs
def own_str (cd z : Int32) (vs : List Value) (cs : List Int32) : Prop := (cd = 0 ∧ z = Int32.ofNat cs.length ∧ vs = cs.map own_lb ∧ ∀ c ∈ cs, ¬ (255 : Int32) < c) ∨ (cd = 1 ∧ z = Int32.ofNat (2 * cs.length) ∧ vs = own_wb cs)
def own_first (j : Int32) (cs : List Int32) : Prop := ∃ K c, j = Int32.ofNat K ∧ cs[K]? = some c ∧ (255 : Int32) < c
theorem own_wbg {d : Value} {c : Int32} : ∀ {cs : List Int32} {K : Nat}, cs[K]? = some c → (own_wb cs).getD (2 * K) d = .int (own_hb c) ∧ (own_wb cs).getD (2 * K + 1) d = .int (own_ob c)
  | [], K, h => by simp at h
  | a :: cs, 0, h => by
    simp at h
    subst h
    exact ⟨rfl, rfl⟩
  | a :: cs, K + 1, h => by
    have q := own_wbg (d := d) (cs := cs) (K := K) (by simpa using h)
    exact q
theorem own_lbg {d : Value} {c : Int32} : ∀ {cs : List Int32} {K : Nat}, cs[K]? = some c → (cs.map own_lb).getD K d = own_lb c
  | [], K, h => by simp at h
  | a :: cs, 0, h => by
    simp at h
    subst h
    rfl
  | a :: cs, K + 1, h => by
    have q := own_lbg (d := d) (cs := cs) (K := K) (by simpa using h)
    exact q
theorem own_klt {c : Int32} {cs : List Int32} {K : Nat} (h : cs[K]? = some c) : K < cs.length := by
  obtain ⟨q, -⟩ := List.getElem?_eq_some_iff.mp h
  exact q
theorem own_mem {c : Int32} {cs : List Int32} {K : Nat} (h : cs[K]? = some c) : c ∈ cs := List.mem_of_getElem? h
theorem own_num1 : ∀ n : Fin 5, ∀ K : Fin 4, K.val < n.val → ¬ (Int32.ofNat K.val) < 0 ∧ (Int32.ofNat K.val) < (Int32.ofNat n.val) ∧ (Int32.ofNat K.val).toNatClampNeg = K.val := by decide +kernel
theorem own_num2 : ∀ n : Fin 5, ∀ K : Fin 4, K.val < n.val → (Int32.ofNat K.val) < ((Int32.ofNat (2 * n.val)) >>> ((1 : Int32) &&& 31)) ∧ (¬ ((Int32.ofNat K.val) <<< ((1 : Int32) &&& 31)) < 0 ∧ ((Int32.ofNat K.val) <<< ((1 : Int32) &&& 31)) < (Int32.ofNat (2 * n.val))) ∧ ((Int32.ofNat K.val) <<< ((1 : Int32) &&& 31)).toNatClampNeg = 2 * K.val ∧ (¬ (((Int32.ofNat K.val) <<< ((1 : Int32) &&& 31)) + (1 : Int32)) < 0 ∧ (((Int32.ofNat K.val) <<< ((1 : Int32) &&& 31)) + (1 : Int32)) < (Int32.ofNat (2 * n.val))) ∧ (((Int32.ofNat K.val) <<< ((1 : Int32) &&& 31)) + (1 : Int32)).toNatClampNeg = 2 * K.val + 1 := by decide +kernel
theorem own_num3 : ∀ n : Fin 5, ((Int32.ofNat n.val) >>> ((0 : Int32) &&& 31)) = Int32.ofNat n.val ∧ ((Int32.ofNat (2 * n.val)) >>> ((1 : Int32) &&& 31)) = Int32.ofNat n.val := by decide +kernel
theorem own_num4 : ∀ n : Fin 5, ∀ K : Fin 4, K.val < n.val → ¬ (Int32.ofNat K.val) = (Int32.ofNat n.val) := by decide +kernel
theorem own_slen {cd z nn : Int32} {vs : List Value} {cs : List Int32} (h : own_str cd z vs cs) (hn : cs.length < 5) (en : nn = Int32.ofNat cs.length) : (z >>> (cd &&& 31)) = nn ∧ nar .byte cd = cd := by
  rcases h with ⟨rfl, rfl, -⟩ | ⟨rfl, rfl, -⟩
  · exact ⟨(own_num3 ⟨_, hn⟩).1.trans en.symm, by decide⟩
  · exact ⟨(own_num3 ⟨_, hn⟩).2.trans en.symm, by decide⟩
theorem own_at (K : Nat) {i z cz : Int32} {cs : List Int32} (hn : cs.length < 5) (hi : i = Int32.ofNat K) (hg : cs[K]? = some cz) : ¬ i < 0 ∧ i < Int32.ofNat cs.length ∧ i.toNatClampNeg = K := by
  subst hi
  have hk := own_klt hg
  exact own_num1 ⟨_, hn⟩ ⟨K, by omega⟩ hk
theorem own_sL (K : Nat) {cd z i cz : Int32} {vs : List Value} {cs : List Int32} (h : cd = 0 ∧ z = Int32.ofNat cs.length ∧ vs = cs.map own_lb ∧ ∀ c ∈ cs, ¬ (255 : Int32) < c) (hn : cs.length < 5) (hu : ∀ c ∈ cs, own_u16 c) (hi : i = Int32.ofNat K) (hg : cs[K]? = some cz) : ¬ i < 0 ∧ i < z ∧ vs.getD i.toNatClampNeg (.int 0) = .int ((cz.toInt8.toInt32).toInt8.toInt32) ∧ nar .char ((((cz.toInt8.toInt32).toInt8.toInt32) &&& (255 : Int32)).toUInt32.toUInt16.toUInt32.toInt32) = cz := by
  obtain ⟨rfl, rfl, rfl, hl⟩ := h
  obtain ⟨h1, h2, h3⟩ := own_at K (z := 0) hn hi hg
  refine ⟨h1, h2, ?_, own_lc (hu _ (own_mem hg)) (hl _ (own_mem hg))⟩
  rw [h3]
  exact own_lbg hg
theorem own_sW (K : Nat) {z i cz : Int32} {vs : List Value} {cs : List Int32} (hz : z = Int32.ofNat (2 * cs.length)) (hv : vs = own_wb cs) (hn : cs.length < 5) (hu : ∀ c ∈ cs, own_u16 c) (hi : i = Int32.ofNat K) (hg : cs[K]? = some cz) : ¬ i < 0 ∧ i < (z >>> ((1 : Int32) &&& 31)) ∧ (¬ (i <<< ((1 : Int32) &&& 31)) < 0 ∧ (i <<< ((1 : Int32) &&& 31)) < z) ∧ vs.getD (i <<< ((1 : Int32) &&& 31)).toNatClampNeg (.int 0) = .int (own_hb cz) ∧ (¬ ((i <<< ((1 : Int32) &&& 31)) + (1 : Int32)) < 0 ∧ ((i <<< ((1 : Int32) &&& 31)) + (1 : Int32)) < z) ∧ vs.getD ((i <<< ((1 : Int32) &&& 31)) + (1 : Int32)).toNatClampNeg (.int 0) = .int (own_ob cz) ∧ nar .char (((((own_hb cz) &&& (255 : Int32)) <<< ((0 : Int32) &&& 31)) ||| (((own_ob cz) &&& (255 : Int32)) <<< ((8 : Int32) &&& 31))).toUInt32.toUInt16.toUInt32.toInt32) = cz := by
  subst hz hv hi
  have hk := own_klt hg
  have h0 := own_num1 ⟨_, hn⟩ ⟨K, by omega⟩ hk
  have h1 := own_num2 ⟨_, hn⟩ ⟨K, by omega⟩ hk
  have h2 := own_wbg (d := .int 0) hg
  refine ⟨h0.1, h1.1, h1.2.1, ?_, h1.2.2.2.1, ?_, own_gc (hu _ (own_mem hg)) rfl rfl⟩
  · rw [h1.2.2.1]
    exact h2.1
  · rw [h1.2.2.2.2]
    exact h2.2
theorem own_fne {j : Int32} {cs : List Int32} (hn : cs.length < 5) (h : own_first j cs) : ¬ j = Int32.ofNat cs.length := by
  obtain ⟨K, c, rfl, hg, -⟩ := h
  have hk := own_klt hg
  exact own_num4 ⟨_, hn⟩ ⟨K, by omega⟩ hk
theorem d0_0 : decode jdk_52_method_5_code 0 = .ok (.getstatic 44, 3) := by decide +kernel
theorem d0_3 : decode jdk_52_method_5_code 3 = .ok (.ifCond .ne 25, 3) := by decide +kernel
theorem d0_28 : decode jdk_52_method_5_code 28 = .ok (.iload_n 1, 1) := by decide +kernel
theorem d0_29 : decode jdk_52_method_5_code 29 = .ok (.iconst 1, 1) := by decide +kernel
theorem d0_30 : decode jdk_52_method_5_code 30 = .ok (.ishl, 1) := by decide +kernel
theorem d0_31 : decode jdk_52_method_5_code 31 = .ok (.istore_n 1, 1) := by decide +kernel
theorem d0_32 : decode jdk_52_method_5_code 32 = .ok (.aload_n 0, 1) := by decide +kernel
theorem d0_33 : decode jdk_52_method_5_code 33 = .ok (.iload_n 1, 1) := by decide +kernel
theorem d0_34 : decode jdk_52_method_5_code 34 = .ok (.iinc 1 1, 3) := by decide +kernel
theorem d0_37 : decode jdk_52_method_5_code 37 = .ok (.baload, 1) := by decide +kernel
theorem d0_38 : decode jdk_52_method_5_code 38 = .ok (.sipush 255, 3) := by decide +kernel
theorem d0_41 : decode jdk_52_method_5_code 41 = .ok (.iand, 1) := by decide +kernel
theorem d0_42 : decode jdk_52_method_5_code 42 = .ok (.getstatic 59, 3) := by decide +kernel
theorem d0_45 : decode jdk_52_method_5_code 45 = .ok (.ishl, 1) := by decide +kernel
theorem d0_46 : decode jdk_52_method_5_code 46 = .ok (.aload_n 0, 1) := by decide +kernel
theorem d0_47 : decode jdk_52_method_5_code 47 = .ok (.iload_n 1, 1) := by decide +kernel
theorem d0_48 : decode jdk_52_method_5_code 48 = .ok (.baload, 1) := by decide +kernel
theorem d0_49 : decode jdk_52_method_5_code 49 = .ok (.sipush 255, 3) := by decide +kernel
theorem d0_52 : decode jdk_52_method_5_code 52 = .ok (.iand, 1) := by decide +kernel
theorem d0_53 : decode jdk_52_method_5_code 53 = .ok (.getstatic 63, 3) := by decide +kernel
theorem d0_56 : decode jdk_52_method_5_code 56 = .ok (.ishl, 1) := by decide +kernel
theorem d0_57 : decode jdk_52_method_5_code 57 = .ok (.ior, 1) := by decide +kernel
theorem d0_58 : decode jdk_52_method_5_code 58 = .ok (.i2c, 1) := by decide +kernel
theorem d0_59 : decode jdk_52_method_5_code 59 = .ok (.ireturn, 1) := by decide +kernel
def Qgch (Z : State) (G1 : Int32) (fm : Value) (b : Addr) (kb : ClassId) (z : Int32) (vs : List Value) (i : Int32) (cs : List Int32) (K : Nat) (cz : Int32) (h0 : Heap) (n0 : Nat) (v : Option Value) (h : Heap) (L : List Loc) : Prop := v = some (.int cz) ∧ Fr n0 L ∧ h = h0
theorem ef_jdk_52_method_5_code_RI (m : MethodId) (x0 : Addr) (x1 : Int32) : entryFrame m #[.ref x0, .int x1] 2 = mkF m 0 #[.val (.ref x0), .val (.int x1)] [] := by first | (simp [entryFrame, mkF, argsToLocals, Value.category]; done) | rfl
abbrev y0 : MethodName := ⟨"java/lang/StringUTF16", "getChar", "([BI)C"⟩
theorem pn_java_lang_StringUTF16 : plainName "java/lang/StringUTF16" = true := by first | (simp [plainName, overriddenIn]; done) | decide +kernel
theorem rmgch (l : Launch) (Z : State) (a0 : Array Value) (G1 : Int32) (fm : Value) (hG : Glob Z a0 G1 fm) (ws : List Jvm.Cond) (b : Addr) (kb : ClassId) (z : Int32) (vs : List Value) (i : Int32) (cs : List Int32) (K : Nat) (cz : Int32) (h0 : Heap) (n0 : Nat) (Z0 : n0 ≤ h0.size) (X00 : Old Z n0 h0) (V_b : Arv Z h0 b kb .byte z vs (.int 0)) (hz : z = Int32.ofNat (2 * cs.length)) (hv : vs = own_wb cs) (hn : cs.length < 5) (hu : ∀ c ∈ cs, own_u16 c) (hi : i = Int32.ofNat K) (hg : cs[K]? = some cz) :
    Met l Z h0 y0 jdk_52_method_5_code 2 (some .char) ws (Room.mk 0 0 0 0) #[.ref b, .int i] (Qgch Z G1 fm b kb z vs i cs K cz h0 n0) := by
  obtain ⟨hw, O_cs, P_cs, O_as, O_hi, O_lo, O_fm, R_fm⟩ := id hG
  have W := @own_W _ _ hw
  refine own_go "java/lang/StringUTF16" rfl (plainFor_of_name pn_java_lang_StringUTF16) ?_
  intro p e s m below meth c s₁ Bd hx hby hml hown hnm X0 e0 hZ
  have hB := @hb _ _ hby
  have N0 := Fr.nil n0
  have hsw := own_sW K hz hv hn hu hi hg
  obtain ⟨T1, X1, e1, st1⟩ := getS2 X0 hx hZ hown (host := "") (Or.inl (W 100 rfl)) Via.refl e0 (O_as.ext X00.2) (g := (mkF m 0 #[.val (.ref b), .val (.int i)] [])) rfl (hB d0_0)
  obtain ⟨clq2, Arq2, qaq2, Sq2, Nq2, Hq2, Gq2⟩ := id V_b
  have hinq2 := inb_of (j := (i <<< ((1 : Int32) &&& 31))) Sq2 hsw.2.2.1
  have hatq2 := Has.at (v := (.int (own_hb cz))) Hq2 hinq2 hsw.2.2.2.1
  obtain ⟨T3, X3, e3, st3⟩ := getS2 X1 hx hZ hown (host := "") (Or.inl (W 101 rfl)) Via.refl e1 (O_hi.ext X00.2) (g := (mkF m 42 #[.val (.ref b), .val (.int ((i <<< ((1 : Int32) &&& 31)) + (1 : Int32)))] [(.int ((own_hb cz) &&& (255 : Int32)))])) rfl (hB d0_42)
  obtain ⟨clq4, Arq4, qaq4, Sq4, Nq4, Hq4, Gq4⟩ := id V_b
  have hinq4 := inb_of (j := ((i <<< ((1 : Int32) &&& 31)) + (1 : Int32))) Sq4 hsw.2.2.2.2.1
  have hatq4 := Has.at (v := (.int (own_ob cz))) Hq4 hinq4 hsw.2.2.2.2.2.1
  obtain ⟨T5, X5, e5, st5⟩ := getS2 X3 hx hZ hown (host := "") (Or.inl (W 102 rfl)) Via.refl e3 (O_lo.ext X00.2) (g := (mkF m 53 #[.val (.ref b), .val (.int ((i <<< ((1 : Int32) &&& 31)) + (1 : Int32)))] [(.int ((own_ob cz) &&& (255 : Int32))), (.int (((own_hb cz) &&& (255 : Int32)) <<< ((0 : Int32) &&& 31)))])) rfl (hB d0_53)
  obtain ⟨fs, hr, hrun, hended, hW, hsame⟩ := X5.leave (v := some (.int (nar .char (((((own_hb cz) &&& (255 : Int32)) <<< ((0 : Int32) &&& 31)) ||| (((own_ob cz) &&& (255 : Int32)) <<< ((8 : Int32) &&& 31))).toUInt32.toUInt16.toUInt32.toInt32)))) (fun h => by rw [Bd.returns] at h; cases h)
  refine ⟨_, _, castTop (ef_jdk_52_method_5_code_RI m b i) ?_, hrun, hended, _, _, rfl, ?_, ⟨_, rfl⟩, hW, hsame.mono (own_ble rfl) (own_ble rfl)⟩
  · show Steps _ _ _ (s₁.setTop (mkF m 0 #[.val (.ref b), .val (.int i)] [])) _
    refine st1 _ ?_
    show Steps _ _ _ (T1.setTop (mkF m 3 #[.val (.ref b), .val (.int i)] [.int 1])) _
    refine XS.ifYes X1.here hx rfl (pc0 := 3) (pc' := 28) rfl (hB d0_3) rfl ((if0 _ _).trans (feq (by decide : ¬ ((1 : Int32) = (0 : Int32)))).2) (by decide) (by decide) ?_
    refine XS.iloadN X1.here hx rfl (hB d0_28) rfl ?_
    refine XS.iconst X1.here hx rfl (hB d0_29) ?_
    refine XS.ishl X1.here hx rfl (hB d0_30) rfl ?_
    refine XS.istoreN X1.here hx rfl (hB d0_31) rfl (l' := #[.val (.ref b), .val (.int (i <<< ((1 : Int32) &&& 31)))]) rfl ?_
    refine XS.aloadN X1.here hx rfl (hB d0_32) rfl rfl ?_
    refine XS.iloadN X1.here hx rfl (hB d0_33) rfl ?_
    refine XS.iinc X1.here hx rfl (hB d0_34) rfl (l' := #[.val (.ref b), .val (.int ((i <<< ((1 : Int32) &&& 31)) + (1 : Int32)))]) rfl ?_
    refine X1.baloadBytes hx (j := (i <<< ((1 : Int32) &&& 31))) (v := (.int (own_hb cz))) (own_cell e1 Arq2.1) (State.isArrayOf_alike hZ.alike Arq2.2.1) Arq2.2.2 hinq2 hatq2 (g := (mkF m 37 #[.val (.ref b), .val (.int ((i <<< ((1 : Int32) &&& 31)) + (1 : Int32)))] [(.int (i <<< ((1 : Int32) &&& 31))), .ref b])) rfl rfl (hB d0_37) _ ?_
    refine XS.sipush X1.here hx rfl (hB d0_38) ?_
    refine XS.iand X1.here hx rfl (hB d0_41) rfl ?_
    refine st3 _ ?_
    show Steps _ _ _ (T3.setTop (mkF m 45 #[.val (.ref b), .val (.int ((i <<< ((1 : Int32) &&& 31)) + (1 : Int32)))] [.int 0, (.int ((own_hb cz) &&& (255 : Int32)))])) _
    refine XS.ishl X3.here hx rfl (hB d0_45) rfl ?_
    refine XS.aloadN X3.here hx rfl (hB d0_46) rfl rfl ?_
    refine XS.iloadN X3.here hx rfl (hB d0_47) rfl ?_
    refine X3.baloadBytes hx (j := ((i <<< ((1 : Int32) &&& 31)) + (1 : Int32))) (v := (.int (own_ob cz))) (own_cell e3 Arq4.1) (State.isArrayOf_alike hZ.alike Arq4.2.1) Arq4.2.2 hinq4 hatq4 (g := (mkF m 48 #[.val (.ref b), .val (.int ((i <<< ((1 : Int32) &&& 31)) + (1 : Int32)))] [(.int ((i <<< ((1 : Int32) &&& 31)) + (1 : Int32))), .ref b, (.int (((own_hb cz) &&& (255 : Int32)) <<< ((0 : Int32) &&& 31)))])) rfl rfl (hB d0_48) _ ?_
    refine XS.sipush X3.here hx rfl (hB d0_49) ?_
    refine XS.iand X3.here hx rfl (hB d0_52) rfl ?_
    refine st5 _ ?_
    show Steps _ _ _ (T5.setTop (mkF m 56 #[.val (.ref b), .val (.int ((i <<< ((1 : Int32) &&& 31)) + (1 : Int32)))] [.int 8, (.int ((own_ob cz) &&& (255 : Int32))), (.int (((own_hb cz) &&& (255 : Int32)) <<< ((0 : Int32) &&& 31)))])) _
    refine XS.ishl X5.here hx rfl (hB d0_56) rfl ?_
    refine XS.ior X5.here hx rfl (hB d0_57) rfl ?_
    refine XS.i2c X5.here hx rfl (hB d0_58) rfl ?_
    exact retN X5 hx (t := .char) Bd.returns (by simp) (hB d0_59) hr
  · show Qgch Z G1 fm b kb z vs i cs K cz h0 n0 _ T5.heap _
    rw [e5]
    exact ⟨(by rw [hsw.2.2.2.2.2.2]), N0, rfl⟩
theorem d1_0 : decode jdk_52_method_4_code 0 = .ok (.getstatic 44, 3) := by decide +kernel
theorem d1_3 : decode jdk_52_method_4_code 3 = .ok (.ifCond .ne 25, 3) := by decide +kernel
theorem d1_28 : decode jdk_52_method_4_code 28 = .ok (.iload_n 1, 1) := by decide +kernel
theorem d1_29 : decode jdk_52_method_4_code 29 = .ok (.iconst 1, 1) := by decide +kernel
theorem d1_30 : decode jdk_52_method_4_code 30 = .ok (.ishl, 1) := by decide +kernel
theorem d1_31 : decode jdk_52_method_4_code 31 = .ok (.istore_n 1, 1) := by decide +kernel
theorem d1_32 : decode jdk_52_method_4_code 32 = .ok (.aload_n 0, 1) := by decide +kernel
theorem d1_33 : decode jdk_52_method_4_code 33 = .ok (.iload_n 1, 1) := by decide +kernel
theorem d1_34 : decode jdk_52_method_4_code 34 = .ok (.iinc 1 1, 3) := by decide +kernel
theorem d1_37 : decode jdk_52_method_4_code 37 = .ok (.iload_n 2, 1) := by decide +kernel
theorem d1_38 : decode jdk_52_method_4_code 38 = .ok (.getstatic 59, 3) := by decide +kernel
theorem d1_41 : decode jdk_52_method_4_code 41 = .ok (.ishr, 1) := by decide +kernel
theorem d1_42 : decode jdk_52_method_4_code 42 = .ok (.i2b, 1) := by decide +kernel
theorem d1_43 : decode jdk_52_method_4_code 43 = .ok (.bastore, 1) := by decide +kernel
theorem d1_44 : decode jdk_52_method_4_code 44 = .ok (.aload_n 0, 1) := by decide +kernel
theorem d1_45 : decode jdk_52_method_4_code 45 = .ok (.iload_n 1, 1) := by decide +kernel
theorem d1_46 : decode jdk_52_method_4_code 46 = .ok (.iload_n 2, 1) := by decide +kernel
theorem d1_47 : decode jdk_52_method_4_code 47 = .ok (.getstatic 63, 3) := by decide +kernel
theorem d1_50 : decode jdk_52_method_4_code 50 = .ok (.ishr, 1) := by decide +kernel
theorem d1_51 : decode jdk_52_method_4_code 51 = .ok (.i2b, 1) := by decide +kernel
theorem d1_52 : decode jdk_52_method_4_code 52 = .ok (.bastore, 1) := by decide +kernel
theorem d1_53 : decode jdk_52_method_4_code 53 = .ok (.return_, 1) := by decide +kernel
def Qput (Z : State) (G1 : Int32) (fm : Value) (b : Addr) (kb : ClassId) (z : Int32) (vs : List Value) (i : Int32) (K : Nat) (cz : Int32) (h0 : Heap) (n0 : Nat) (v : Option Value) (h : Heap) (L : List Loc) : Prop := v = none ∧ Fr n0 L ∧ Keep h0 h [b] ∧ Arv Z h b kb .byte z ((vs.set K (.int (((cz >>> ((0 : Int32) &&& 31)).toInt8.toInt32).toInt8.toInt32))).set (K + 1) (.int (((cz >>> ((8 : Int32) &&& 31)).toInt8.toInt32).toInt8.toInt32))) (.int 0)
theorem ef_jdk_52_method_4_code_RII (m : MethodId) (x0 : Addr) (x1 : Int32) (x2 : Int32) : entryFrame m #[.ref x0, .int x1, .int x2] 3 = mkF m 0 #[.val (.ref x0), .val (.int x1), .val (.int x2)] [] := by first | (simp [entryFrame, mkF, argsToLocals, Value.category]; done) | rfl
abbrev y1 : MethodName := ⟨"java/lang/StringUTF16", "putChar", "([BII)V"⟩
theorem rmput (l : Launch) (Z : State) (a0 : Array Value) (G1 : Int32) (fm : Value) (hG : Glob Z a0 G1 fm) (ws : List Jvm.Cond) (b : Addr) (kb : ClassId) (z : Int32) (vs : List Value) (i : Int32) (K : Nat) (cz : Int32) (h0 : Heap) (n0 : Nat) (Z0 : n0 ≤ h0.size) (X00 : Old Z n0 h0) (V_b : Arv Z h0 b kb .byte z vs (.int 0)) (g_b : n0 ≤ b) (h1 : ¬ (i <<< ((1 : Int32) &&& 31)) < 0 ∧ (i <<< ((1 : Int32) &&& 31)) < z) (k1 : (i <<< ((1 : Int32) &&& 31)).toNatClampNeg = K) (l1 : K < vs.length) (h2 : ¬ ((i <<< ((1 : Int32) &&& 31)) + (1 : Int32)) < 0 ∧ ((i <<< ((1 : Int32) &&& 31)) + (1 : Int32)) < z) (k2 : ((i <<< ((1 : Int32) &&& 31)) + (1 : Int32)).toNatClampNeg = (K + 1)) (l2 : (K + 1) < vs.length) :
    Met l Z h0 y1 jdk_52_method_4_code 3 none ws (Room.mk 0 0 0 0) #[.ref b, .int i, .int cz] (Qput Z G1 fm b kb z vs i K cz h0 n0) := by
  obtain ⟨hw, O_cs, P_cs, O_as, O_hi, O_lo, O_fm, R_fm⟩ := id hG
  have W := @own_W _ _ hw
  refine own_go "java/lang/StringUTF16" rfl (plainFor_of_name pn_java_lang_StringUTF16) ?_
  intro p e s m below meth c s₁ Bd hx hby hml hown hnm X0 e0 hZ
  have hB := @hb _ _ hby
  have N0 := Fr.nil n0
  obtain ⟨T6, X6, e6, st6⟩ := getS2 X0 hx hZ hown (host := "") (Or.inl (W 100 rfl)) Via.refl e0 (O_as.ext X00.2) (g := (mkF m 0 #[.val (.ref b), .val (.int i), .val (.int cz)] [])) rfl (hB d1_0)
  obtain ⟨T7, X7, e7, st7⟩ := getS2 X6 hx hZ hown (host := "") (Or.inl (W 101 rfl)) Via.refl e6 (O_hi.ext X00.2) (g := (mkF m 38 #[.val (.ref b), .val (.int ((i <<< ((1 : Int32) &&& 31)) + (1 : Int32))), .val (.int cz)] [.int cz, (.int (i <<< ((1 : Int32) &&& 31))), .ref b])) rfl (hB d1_38)
  obtain ⟨clq8, Arq8, qaq8, Sq8, Nq8, Hq8, Gq8⟩ := id V_b
  have hinq8 := inb_of (j := (i <<< ((1 : Int32) &&& 31))) Sq8 h1
  obtain ⟨T9, h9, X9, e9, W9, st9⟩ := stB X7 hx hZ e7 Arq8 (j := (i <<< ((1 : Int32) &&& 31))) hinq8 (g := (mkF m 43 #[.val (.ref b), .val (.int ((i <<< ((1 : Int32) &&& 31)) + (1 : Int32))), .val (.int cz)] [(.int ((cz >>> ((0 : Int32) &&& 31)).toInt8.toInt32)), (.int (i <<< ((1 : Int32) &&& 31))), .ref b])) rfl rfl (hB d1_43)
  have V9 : Arv Z h9 b kb .byte z (vs.set K (.int (((cz >>> ((0 : Int32) &&& 31)).toInt8.toInt32).toInt8.toInt32))) (.int 0) := Arv.set Arq8 qaq8 Sq8 Nq8 Hq8 Gq8 (fits_nar_byte _) W9 K k1 l1
  have Z10 : n0 ≤ h9.size := Nat.le_trans Z0 (Keep.of_wr W9).1
  have K0_10 : Keep h0 h9 [b] := (Keep.refl h0 [b]).wr W9 (Or.inl (List.mem_of_getElem? (i := 0) rfl))
  have O10 : Old Z n0 h9 := X00.wr W9 g_b
  have N9 := Fr.snoc X9 N0 g_b
  obtain ⟨T11, X11, e11, st11⟩ := getS2 X9 hx hZ hown (host := "") (Or.inl (W 102 rfl)) Via.refl e9 (O_lo.ext O10.2) (g := (mkF m 47 #[.val (.ref b), .val (.int ((i <<< ((1 : Int32) &&& 31)) + (1 : Int32))), .val (.int cz)] [.int cz, (.int ((i <<< ((1 : Int32) &&& 31)) + (1 : Int32))), .ref b])) rfl (hB d1_47)
  obtain ⟨clq12, Arq12, qaq12, Sq12, Nq12, Hq12, Gq12⟩ := id V9
  have hinq12 := inb_of (j := ((i <<< ((1 : Int32) &&& 31)) + (1 : Int32))) Sq12 h2
  obtain ⟨T13, h13, X13, e13, W13, st13⟩ := stB X11 hx hZ e11 Arq12 (j := ((i <<< ((1 : Int32) &&& 31)) + (1 : Int32))) hinq12 (g := (mkF m 52 #[.val (.ref b), .val (.int ((i <<< ((1 : Int32) &&& 31)) + (1 : Int32))), .val (.int cz)] [(.int ((cz >>> ((8 : Int32) &&& 31)).toInt8.toInt32)), (.int ((i <<< ((1 : Int32) &&& 31)) + (1 : Int32))), .ref b])) rfl rfl (hB d1_52)
  have V13 : Arv Z h13 b kb .byte z ((vs.set K (.int (((cz >>> ((0 : Int32) &&& 31)).toInt8.toInt32).toInt8.toInt32))).set (K + 1) (.int (((cz >>> ((8 : Int32) &&& 31)).toInt8.toInt32).toInt8.toInt32))) (.int 0) := Arv.set Arq12 qaq12 Sq12 Nq12 Hq12 Gq12 (fits_nar_byte _) W13 (K + 1) k2 (by rw [List.length_set]; exact l2)
  have Z14 : n0 ≤ h13.size := Nat.le_trans Z10 (Keep.of_wr W13).1
  have K0_14 : Keep h0 h13 [b] := K0_10.wr W13 (Or.inl (List.mem_of_getElem? (i := 0) rfl))
  have O14 : Old Z n0 h13 := O10.wr W13 g_b
  have N13 := Fr.snoc X13 N9 g_b
  obtain ⟨fs, hr, hrun, hended, hW, hsame⟩ := X13.leave (v := none) (fun _ => rfl)
  refine ⟨_, _, castTop (ef_jdk_52_method_4_code_RII m b i cz) ?_, hrun, hended, _, _, rfl, ?_, ⟨_, rfl⟩, hW, hsame.mono (own_ble rfl) (own_ble rfl)⟩
  · show Steps _ _ _ (s₁.setTop (mkF m 0 #[.val (.ref b), .val (.int i), .val (.int cz)] [])) _
    refine st6 _ ?_
    show Steps _ _ _ (T6.setTop (mkF m 3 #[.val (.ref b), .val (.int i), .val (.int cz)] [.int 1])) _
    refine XS.ifYes X6.here hx rfl (pc0 := 3) (pc' := 28) rfl (hB d1_3) rfl ((if0 _ _).trans (feq (by decide : ¬ ((1 : Int32) = (0 : Int32)))).2) (by decide) (by decide) ?_
    refine XS.iloadN X6.here hx rfl (hB d1_28) rfl ?_
    refine XS.iconst X6.here hx rfl (hB d1_29) ?_
    refine XS.ishl X6.here hx rfl (hB d1_30) rfl ?_
    refine XS.istoreN X6.here hx rfl (hB d1_31) rfl (l' := #[.val (.ref b), .val (.int (i <<< ((1 : Int32) &&& 31))), .val (.int cz)]) rfl ?_
    refine XS.aloadN X6.here hx rfl (hB d1_32) rfl rfl ?_
    refine XS.iloadN X6.here hx rfl (hB d1_33) rfl ?_
    refine XS.iinc X6.here hx rfl (hB d1_34) rfl (l' := #[.val (.ref b), .val (.int ((i <<< ((1 : Int32) &&& 31)) + (1 : Int32))), .val (.int cz)]) rfl ?_
    refine XS.iloadN X6.here hx rfl (hB d1_37) rfl ?_
    refine st7 _ ?_
    show Steps _ _ _ (T7.setTop (mkF m 41 #[.val (.ref b), .val (.int ((i <<< ((1 : Int32) &&& 31)) + (1 : Int32))), .val (.int cz)] [.int 0, .int cz, (.int (i <<< ((1 : Int32) &&& 31))), .ref b])) _
    refine XS.ishr X7.here hx rfl (hB d1_41) rfl ?_
    refine XS.i2b X7.here hx rfl (hB d1_42) rfl ?_
    refine st9 _ ?_
    show Steps _ _ _ (T9.setTop (mkF m 44 #[.val (.ref b), .val (.int ((i <<< ((1 : Int32) &&& 31)) + (1 : Int32))), .val (.int cz)] [])) _
    refine XS.aloadN X9.here hx rfl (hB d1_44) rfl rfl ?_
    refine XS.iloadN X9.here hx rfl (hB d1_45) rfl ?_
    refine XS.iloadN X9.here hx rfl (hB d1_46) rfl ?_
    refine st11 _ ?_
    show Steps _ _ _ (T11.setTop (mkF m 50 #[.val (.ref b), .val (.int ((i <<< ((1 : Int32) &&& 31)) + (1 : Int32))), .val (.int cz)] [.int 8, .int cz, (.int ((i <<< ((1 : Int32) &&& 31)) + (1 : Int32))), .ref b])) _
    refine XS.ishr X11.here hx rfl (hB d1_50) rfl ?_
    refine XS.i2b X11.here hx rfl (hB d1_51) rfl ?_
    refine st13 _ ?_
    show Steps _ _ _ (T13.setTop (mkF m 53 #[.val (.ref b), .val (.int ((i <<< ((1 : Int32) &&& 31)) + (1 : Int32))), .val (.int cz)] [])) _
    exact X13.returnOut hx Bd.returns (hB d1_53) hr
  · show Qput Z G1 fm b kb z vs i K cz h0 n0 _ T13.heap _
    rw [e13]
    exact ⟨rfl, N13, K0_14, V13⟩
theorem d2_0 : decode jdk_52_method_6_code 0 = .ok (.aload_n 0, 1) := by decide +kernel
theorem d2_1 : decode jdk_52_method_6_code 1 = .ok (.arraylength, 1) := by decide +kernel
theorem d2_2 : decode jdk_52_method_6_code 2 = .ok (.iconst 1, 1) := by decide +kernel
theorem d2_3 : decode jdk_52_method_6_code 3 = .ok (.ishr, 1) := by decide +kernel
theorem d2_4 : decode jdk_52_method_6_code 4 = .ok (.ireturn, 1) := by decide +kernel
def Qulen (Z : State) (G1 : Int32) (fm : Value) (b : Addr) (kb : ClassId) (z : Int32) (vs : List Value) (h0 : Heap) (n0 : Nat) (v : Option Value) (h : Heap) (L : List Loc) : Prop := v = some (.int (z >>> ((1 : Int32) &&& 31))) ∧ Fr n0 L ∧ h = h0
theorem ef_jdk_52_method_6_code_R (m : MethodId) (x0 : Addr) : entryFrame m #[.ref x0] 1 = mkF m 0 #[.val (.ref x0)] [] := by first | (simp [entryFrame, mkF, argsToLocals, Value.category]; done) | rfl
abbrev y2 : MethodName := ⟨"java/lang/StringUTF16", "length", "([B)I"⟩
theorem rmulen (l : Launch) (Z : State) (a0 : Array Value) (G1 : Int32) (fm : Value) (hG : Glob Z a0 G1 fm) (ws : List Jvm.Cond) (b : Addr) (kb : ClassId) (z : Int32) (vs : List Value) (h0 : Heap) (n0 : Nat) (Z0 : n0 ≤ h0.size) (X00 : Old Z n0 h0) (V_b : Arv Z h0 b kb .byte z vs (.int 0)) :
    Met l Z h0 y2 jdk_52_method_6_code 1 (some .int) ws (Room.mk 0 0 0 0) #[.ref b] (Qulen Z G1 fm b kb z vs h0 n0) := by
  obtain ⟨hw, O_cs, P_cs, O_as, O_hi, O_lo, O_fm, R_fm⟩ := id hG
  have W := @own_W _ _ hw
  refine own_go "java/lang/StringUTF16" rfl (plainFor_of_name pn_java_lang_StringUTF16) ?_
  intro p e s m below meth c s₁ Bd hx hby hml hown hnm X0 e0 hZ
  have hB := @hb _ _ hby
  have N0 := Fr.nil n0
  obtain ⟨clq15, Arq15, qaq15, Sq15, Nq15, Hq15, Gq15⟩ := id V_b
  obtain ⟨fs, hr, hrun, hended, hW, hsame⟩ := X0.leave (v := some (.int (z >>> ((1 : Int32) &&& 31)))) (fun h => by rw [Bd.returns] at h; cases h)
  refine ⟨_, _, castTop (ef_jdk_52_method_6_code_R m b) ?_, hrun, hended, _, _, rfl, ?_, ⟨_, rfl⟩, hW, hsame.mono (own_ble rfl) (own_ble rfl)⟩
  · show Steps _ _ _ (s₁.setTop (mkF m 0 #[.val (.ref b)] [])) _
    refine XS.aloadN X0.here hx rfl (hB d2_0) rfl rfl ?_
    refine X0.arraylength hx (own_cell e0 Arq15.1) (State.isArrayOf_alike hZ.alike Arq15.2.1) (g := (mkF m 1 #[.val (.ref b)] [.ref b])) rfl rfl (hB d2_1) _ ?_
    rw [len_of Sq15 Nq15]
    refine XS.iconst X0.here hx rfl (hB d2_2) ?_
    refine XS.ishr X0.here hx rfl (hB d2_3) rfl ?_
    exact retOut X0 hx Bd.returns rfl (Or.inl ⟨rfl, Or.inl rfl, _, rfl⟩) (hB d2_4) hr
  · show Qulen Z G1 fm b kb z vs h0 n0 _ s₁.heap _
    rw [e0]
    exact ⟨rfl, N0, rfl⟩
theorem d3_0 : decode jdk_42_method_154_code 0 = .ok (.getstatic 38, 3) := by decide +kernel
theorem d3_3 : decode jdk_42_method_154_code 3 = .ok (.ifCond .eq 14, 3) := by decide +kernel
theorem d3_6 : decode jdk_42_method_154_code 6 = .ok (.aload_n 0, 1) := by decide +kernel
theorem d3_7 : decode jdk_42_method_154_code 7 = .ok (.getfield 15, 3) := by decide +kernel
theorem d3_10 : decode jdk_42_method_154_code 10 = .ok (.ifCond .ne 7, 3) := by decide +kernel
theorem d3_13 : decode jdk_42_method_154_code 13 = .ok (.iconst 1, 1) := by decide +kernel
theorem d3_14 : decode jdk_42_method_154_code 14 = .ok (.goto 4, 3) := by decide +kernel
theorem d3_18 : decode jdk_42_method_154_code 18 = .ok (.ireturn, 1) := by decide +kernel
def QislL (Z : State) (G1 : Int32) (fm : Value) (a1 : Addr) (cd : Int32) (h0 : Heap) (n0 : Nat) (v : Option Value) (h : Heap) (L : List Loc) : Prop := v = some (.int 1) ∧ Fr n0 L ∧ h = h0
theorem ef_jdk_42_method_154_code_R (m : MethodId) (x0 : Addr) : entryFrame m #[.ref x0] 1 = mkF m 0 #[.val (.ref x0)] [] := by first | (simp [entryFrame, mkF, argsToLocals, Value.category]; done) | rfl
abbrev y3 : MethodName := ⟨"java/lang/String", "isLatin1", "()Z"⟩
theorem pn_java_lang_String : plainName "java/lang/String" = true := by first | (simp [plainName, overriddenIn]; done) | decide +kernel
theorem rmislL (l : Launch) (Z : State) (a0 : Array Value) (G1 : Int32) (fm : Value) (hG : Glob Z a0 G1 fm) (ws : List Jvm.Cond) (a1 : Addr) (cd : Int32) (h0 : Heap) (n0 : Nat) (Z0 : n0 ≤ h0.size) (X00 : Old Z n0 h0) (F_coder_a1 : Fld Z h0 a1 "java/lang/String" "coder" "B" (.int cd)) (h1 : cd = (0 : Int32)) :
    Met l Z h0 y3 jdk_42_method_154_code 1 (some .boolean) ws (Room.mk 0 0 0 0) #[.ref a1] (QislL Z G1 fm a1 cd h0 n0) := by
  obtain ⟨hw, O_cs, P_cs, O_as, O_hi, O_lo, O_fm, R_fm⟩ := id hG
  have W := @own_W _ _ hw
  refine own_go "java/lang/String" rfl (plainFor_of_name pn_java_lang_String) ?_
  intro p e s m below meth c s₁ Bd hx hby hml hown hnm X0 e0 hZ
  have hB := @hb _ _ hby
  have N0 := Fr.nil n0
  obtain ⟨T16, X16, e16, st16⟩ := getS2 X0 hx hZ hown (host := "") (Or.inl (W 49 rfl)) Via.refl e0 (O_cs.ext X00.2) (g := (mkF m 0 #[.val (.ref a1)] [])) rfl (hB d3_0)
  obtain ⟨T17, X17, e17, st17⟩ := getF X16 hx hZ hown (host := "") (Or.inl (W 29 rfl)) Via.refl e16 F_coder_a1 (g := (mkF m 7 #[.val (.ref a1)] [.ref a1])) rfl rfl (hB d3_7)
  obtain ⟨fs, hr, hrun, hended, hW, hsame⟩ := X17.leave (v := some (.int 1)) (fun h => by rw [Bd.returns] at h; cases h)
  refine ⟨_, _, castTop (ef_jdk_42_method_154_code_R m a1) ?_, hrun, hended, _, _, rfl, ?_, ⟨_, rfl⟩, hW, hsame.mono (own_ble rfl) (own_ble rfl)⟩
  · show Steps _ _ _ (s₁.setTop (mkF m 0 #[.val (.ref a1)] [])) _
    refine st16 _ ?_
    show Steps _ _ _ (T16.setTop (mkF m 3 #[.val (.ref a1)] [.int G1])) _
    refine XS.ifNo X16.here hx rfl (hB d3_3) rfl ((if0 _ _).trans (feq (P_cs : ¬ (G1 = (0 : Int32)))).1) ?_
    refine XS.aloadN X16.here hx rfl (hB d3_6) rfl rfl ?_
    refine st17 _ ?_
    show Steps _ _ _ (T17.setTop (mkF m 10 #[.val (.ref a1)] [.int cd])) _
    refine XS.ifNo X17.here hx rfl (hB d3_10) rfl ((if0 _ _).trans (teq (h1 : cd = (0 : Int32))).2) ?_
    refine XS.iconst X17.here hx rfl (hB d3_13) ?_
    refine XS.goto X17.here hx rfl (pc0 := 14) (pc' := 18) rfl (hB d3_14) (by decide) (by decide) ?_
    exact retN X17 hx (t := .boolean) Bd.returns (by simp) (hB d3_18) hr
  · show QislL Z G1 fm a1 cd h0 n0 _ T17.heap _
    rw [e17]
    exact ⟨rfl, N0, rfl⟩
theorem d3_17 : decode jdk_42_method_154_code 17 = .ok (.iconst 0, 1) := by decide +kernel
def QislW (Z : State) (G1 : Int32) (fm : Value) (a1 : Addr) (cd : Int32) (h0 : Heap) (n0 : Nat) (v : Option Value) (h : Heap) (L : List Loc) : Prop := v = some (.int 0) ∧ Fr n0 L ∧ h = h0
theorem rmislW (l : Launch) (Z : State) (a0 : Array Value) (G1 : Int32) (fm : Value) (hG : Glob Z a0 G1 fm) (ws : List Jvm.Cond) (a1 : Addr) (cd : Int32) (h0 : Heap) (n0 : Nat) (Z0 : n0 ≤ h0.size) (X00 : Old Z n0 h0) (F_coder_a1 : Fld Z h0 a1 "java/lang/String" "coder" "B" (.int cd)) (h1 : ¬ (cd = (0 : Int32))) :
    Met l Z h0 y3 jdk_42_method_154_code 1 (some .boolean) ws (Room.mk 0 0 0 0) #[.ref a1] (QislW Z G1 fm a1 cd h0 n0) := by
  obtain ⟨hw, O_cs, P_cs, O_as, O_hi, O_lo, O_fm, R_fm⟩ := id hG
  have W := @own_W _ _ hw
  refine own_go "java/lang/String" rfl (plainFor_of_name pn_java_lang_String) ?_
  intro p e s m below meth c s₁ Bd hx hby hml hown hnm X0 e0 hZ
  have hB := @hb _ _ hby
  have N0 := Fr.nil n0
  obtain ⟨T18, X18, e18, st18⟩ := getS2 X0 hx hZ hown (host := "") (Or.inl (W 49 rfl)) Via.refl e0 (O_cs.ext X00.2) (g := (mkF m 0 #[.val (.ref a1)] [])) rfl (hB d3_0)
  obtain ⟨T19, X19, e19, st19⟩ := getF X18 hx hZ hown (host := "") (Or.inl (W 29 rfl)) Via.refl e18 F_coder_a1 (g := (mkF m 7 #[.val (.ref a1)] [.ref a1])) rfl rfl (hB d3_7)
  obtain ⟨fs, hr, hrun, hended, hW, hsame⟩ := X19.leave (v := some (.int 0)) (fun h => by rw [Bd.returns] at h; cases h)
  refine ⟨_, _, castTop (ef_jdk_42_method_154_code_R m a1) ?_, hrun, hended, _, _, rfl, ?_, ⟨_, rfl⟩, hW, hsame.mono (own_ble rfl) (own_ble rfl)⟩
  · show Steps _ _ _ (s₁.setTop (mkF m 0 #[.val (.ref a1)] [])) _
    refine st18 _ ?_
    show Steps _ _ _ (T18.setTop (mkF m 3 #[.val (.ref a1)] [.int G1])) _
    refine XS.ifNo X18.here hx rfl (hB d3_3) rfl ((if0 _ _).trans (feq (P_cs : ¬ (G1 = (0 : Int32)))).1) ?_
    refine XS.aloadN X18.here hx rfl (hB d3_6) rfl rfl ?_
    refine st19 _ ?_
    show Steps _ _ _ (T19.setTop (mkF m 10 #[.val (.ref a1)] [.int cd])) _
    refine XS.ifYes X19.here hx rfl (pc0 := 10) (pc' := 17) rfl (hB d3_10) rfl ((if0 _ _).trans (feq (h1 : ¬ (cd = (0 : Int32)))).2) (by decide) (by decide) ?_
    refine XS.iconst X19.here hx rfl (hB d3_17) ?_
    exact retN X19 hx (t := .boolean) Bd.returns (by simp) (hB d3_18) hr
  · show QislW Z G1 fm a1 cd h0 n0 _ T19.heap _
    rw [e19]
    exact ⟨rfl, N0, rfl⟩
theorem d4_0 : decode jdk_42_method_152_code 0 = .ok (.getstatic 38, 3) := by decide +kernel
theorem d4_3 : decode jdk_42_method_152_code 3 = .ok (.ifCond .eq 10, 3) := by decide +kernel
theorem d4_6 : decode jdk_42_method_152_code 6 = .ok (.aload_n 0, 1) := by decide +kernel
theorem d4_7 : decode jdk_42_method_152_code 7 = .ok (.getfield 15, 3) := by decide +kernel
theorem d4_10 : decode jdk_42_method_152_code 10 = .ok (.goto 4, 3) := by decide +kernel
theorem d4_14 : decode jdk_42_method_152_code 14 = .ok (.ireturn, 1) := by decide +kernel
def Qcod (Z : State) (G1 : Int32) (fm : Value) (a1 : Addr) (cd : Int32) (h0 : Heap) (n0 : Nat) (v : Option Value) (h : Heap) (L : List Loc) : Prop := v = some (.int cd) ∧ Fr n0 L ∧ h = h0
theorem ef_jdk_42_method_152_code_R (m : MethodId) (x0 : Addr) : entryFrame m #[.ref x0] 1 = mkF m 0 #[.val (.ref x0)] [] := by first | (simp [entryFrame, mkF, argsToLocals, Value.category]; done) | rfl
abbrev y4 : MethodName := ⟨"java/lang/String", "coder", "()B"⟩
theorem rmcod (l : Launch) (Z : State) (a0 : Array Value) (G1 : Int32) (fm : Value) (hG : Glob Z a0 G1 fm) (ws : List Jvm.Cond) (a1 : Addr) (cd : Int32) (h0 : Heap) (n0 : Nat) (Z0 : n0 ≤ h0.size) (X00 : Old Z n0 h0) (F_coder_a1 : Fld Z h0 a1 "java/lang/String" "coder" "B" (.int cd)) (h1 : nar .byte cd = cd) :
    Met l Z h0 y4 jdk_42_method_152_code 1 (some .byte) ws (Room.mk 0 0 0 0) #[.ref a1] (Qcod Z G1 fm a1 cd h0 n0) := by
  obtain ⟨hw, O_cs, P_cs, O_as, O_hi, O_lo, O_fm, R_fm⟩ := id hG
  have W := @own_W _ _ hw
  refine own_go "java/lang/String" rfl (plainFor_of_name pn_java_lang_String) ?_
  intro p e s m below meth c s₁ Bd hx hby hml hown hnm X0 e0 hZ
  have hB := @hb _ _ hby
  have N0 := Fr.nil n0
  obtain ⟨T20, X20, e20, st20⟩ := getS2 X0 hx hZ hown (host := "") (Or.inl (W 49 rfl)) Via.refl e0 (O_cs.ext X00.2) (g := (mkF m 0 #[.val (.ref a1)] [])) rfl (hB d4_0)
  obtain ⟨T21, X21, e21, st21⟩ := getF X20 hx hZ hown (host := "") (Or.inl (W 29 rfl)) Via.refl e20 F_coder_a1 (g := (mkF m 7 #[.val (.ref a1)] [.ref a1])) rfl rfl (hB d4_7)
  obtain ⟨fs, hr, hrun, hended, hW, hsame⟩ := X21.leave (v := some (.int (nar .byte cd))) (fun h => by rw [Bd.returns] at h; cases h)
  refine ⟨_, _, castTop (ef_jdk_42_method_152_code_R m a1) ?_, hrun, hended, _, _, rfl, ?_, ⟨_, rfl⟩, hW, hsame.mono (own_ble rfl) (own_ble rfl)⟩
  · show Steps _ _ _ (s₁.setTop (mkF m 0 #[.val (.ref a1)] [])) _
    refine st20 _ ?_
    show Steps _ _ _ (T20.setTop (mkF m 3 #[.val (.ref a1)] [.int G1])) _
    refine XS.ifNo X20.here hx rfl (hB d4_3) rfl ((if0 _ _).trans (feq (P_cs : ¬ (G1 = (0 : Int32)))).1) ?_
    refine XS.aloadN X20.here hx rfl (hB d4_6) rfl rfl ?_
    refine st21 _ ?_
    show Steps _ _ _ (T21.setTop (mkF m 10 #[.val (.ref a1)] [.int cd])) _
    refine XS.goto X21.here hx rfl (pc0 := 10) (pc' := 14) rfl (hB d4_10) (by decide) (by decide) ?_
    exact retN X21 hx (t := .byte) Bd.returns (by simp) (hB d4_14) hr
  · show Qcod Z G1 fm a1 cd h0 n0 _ T21.heap _
    rw [e21]
    exact ⟨(by rw [h1]), N0, rfl⟩
theorem d5_0 : decode jdk_42_method_54_code 0 = .ok (.aload_n 0, 1) := by decide +kernel
theorem d5_1 : decode jdk_42_method_54_code 1 = .ok (.getfield 9, 3) := by decide +kernel
theorem d5_4 : decode jdk_42_method_54_code 4 = .ok (.arraylength, 1) := by decide +kernel
theorem d5_5 : decode jdk_42_method_54_code 5 = .ok (.aload_n 0, 1) := by decide +kernel
theorem d5_6 : decode jdk_42_method_54_code 6 = .ok (.invokevirtual 335, 3) := by decide +kernel
theorem pd___B : parseMethodDescriptor "()B" = some ⟨[], some .byte⟩ := by decide +kernel
theorem d5_9 : decode jdk_42_method_54_code 9 = .ok (.ishr, 1) := by decide +kernel
theorem d5_10 : decode jdk_42_method_54_code 10 = .ok (.ireturn, 1) := by decide +kernel
def Qsln (Z : State) (G1 : Int32) (fm : Value) (a1 : Addr) (b : Addr) (kb : ClassId) (cd : Int32) (z : Int32) (vs : List Value) (cs : List Int32) (nn : Int32) (h0 : Heap) (n0 : Nat) (v : Option Value) (h : Heap) (L : List Loc) : Prop := v = some (.int nn) ∧ Fr n0 L ∧ h = h0
theorem ef_jdk_42_method_54_code_R (m : MethodId) (x0 : Addr) : entryFrame m #[.ref x0] 1 = mkF m 0 #[.val (.ref x0)] [] := by first | (simp [entryFrame, mkF, argsToLocals, Value.category]; done) | rfl
abbrev y5 : MethodName := ⟨"java/lang/String", "length", "()I"⟩
theorem rmsln (l : Launch) (Z : State) (a0 : Array Value) (G1 : Int32) (fm : Value) (hG : Glob Z a0 G1 fm) (ws : List Jvm.Cond) (a1 : Addr) (b : Addr) (kb : ClassId) (cd : Int32) (z : Int32) (vs : List Value) (cs : List Int32) (nn : Int32) (h0 : Heap) (n0 : Nat) (Z0 : n0 ≤ h0.size) (X00 : Old Z n0 h0) (E_a1 : Exa Z h0 a1 "java/lang/String") (F_coder_a1 : Fld Z h0 a1 "java/lang/String" "coder" "B" (.int cd)) (F_value_a1 : Fld Z h0 a1 "java/lang/String" "value" "[B" (.ref b)) (V_b : Arv Z h0 b kb .byte z vs (.int 0)) (hs : own_str cd z vs cs) (hn : cs.length < 5) (en : nn = Int32.ofNat cs.length) :
    Met l Z h0 y5 jdk_42_method_54_code 1 (some .int) ws (Room.mk 1 0 0 13) #[.ref a1] (Qsln Z G1 fm a1 b kb cd z vs cs nn h0 n0) := by
  obtain ⟨hw, O_cs, P_cs, O_as, O_hi, O_lo, O_fm, R_fm⟩ := id hG
  have W := @own_W _ _ hw
  refine own_go "java/lang/String" rfl (plainFor_of_name pn_java_lang_String) ?_
  intro p e s m below meth c s₁ Bd hx hby hml hown hnm X0 e0 hZ
  have hB := @hb _ _ hby
  have N0 := Fr.nil n0
  obtain ⟨T22, X22, e22, st22⟩ := getF X0 hx hZ hown (host := "") (Or.inl (W 28 rfl)) Via.refl e0 F_value_a1 (g := (mkF m 1 #[.val (.ref a1)] [.ref a1])) rfl rfl (hB d5_1)
  obtain ⟨clq23, Arq23, qaq23, Sq23, Nq23, Hq23, Gq23⟩ := id V_b
  obtain ⟨cq24, kq24, q24a, q24b, q24c⟩ := isOf hZ e22 E_a1
  -- pc 6: java/lang/String.coder
  obtain ⟨_, _, ⟨T24, L24, k24, n24⟩, -, X24, ⟨Lc24, hQ24, l24, y24, z24⟩, st24⟩ := X22.virtualBack hx (y := y4) (z := y4) hown (mvT hZ (W 55 rfl)) (mvT hZ (W 56 rfl)) (notFace_of_selects (args := #[]) (mvT hZ (W 58 rfl))) (mvT hZ (W 58 rfl)) (mvT hZ (W 57 rfl)) (by decide) (backOf (W := 1) (rmcod l Z a0 G1 fm hG [] a1 cd h0 n0 Z0 X00 F_coder_a1 ((own_slen hs hn en).2)) hZ (W 59 rfl) (W 10 rfl) (by decide) (by decide)) q24a q24c (g := (mkF m 6 #[.val (.ref a1)] [.ref a1, .int z])) rfl (by rw [hml]; rfl) (Steps.refl _) (argsL := []) (rest := [.int z]) (lenOf pd___B rfl) rfl (by show 2 * 0 + _ ≤ _; exact Nat.le_of_eq rfl) (hB d5_6) (fun _ _ => ⟨rfl, e22, (by decide : 0 + 0 ≤ _), (by decide : 0 + 0 ≤ _)⟩)
  dsimp only [Pt.U, Pt.locs, Pt.cells, Pt.slots] at X24 l24 y24 z24 st24 hQ24
  subst l24 y24 z24
  obtain ⟨rfl, N24q, eq24⟩ := hQ24
  have N24 := Fr.app N0 N24q
  obtain ⟨fs, hr, hrun, hended, hW, hsame⟩ := X24.leave (v := some (.int (z >>> (cd &&& 31)))) (fun h => by rw [Bd.returns] at h; cases h)
  refine ⟨_, _, castTop (ef_jdk_42_method_54_code_R m a1) ?_, hrun, hended, _, _, rfl, ?_, ⟨_, rfl⟩, hW, hsame.mono (own_ble rfl) (own_ble rfl)⟩
  · show Steps _ _ _ (s₁.setTop (mkF m 0 #[.val (.ref a1)] [])) _
    refine XS.aloadN X0.here hx rfl (hB d5_0) rfl rfl ?_
    refine st22 _ ?_
    show Steps _ _ _ (T22.setTop (mkF m 4 #[.val (.ref a1)] [.ref b])) _
    refine X22.arraylength hx (own_cell e22 Arq23.1) (State.isArrayOf_alike hZ.alike Arq23.2.1) (g := (mkF m 4 #[.val (.ref a1)] [.ref b])) rfl rfl (hB d5_4) _ ?_
    rw [len_of Sq23 Nq23]
    refine XS.aloadN X22.here hx rfl (hB d5_5) rfl rfl ?_
    refine st24.trans ?_
    show Steps _ _ _ (T24.setTop (mkF m 9 #[.val (.ref a1)] [.int cd, .int z])) _
    refine XS.ishr X24.here hx rfl (hB d5_9) rfl ?_
    exact retOut X24 hx Bd.returns rfl (Or.inl ⟨rfl, Or.inl rfl, _, rfl⟩) (hB d5_10) hr
  · show Qsln Z G1 fm a1 b kb cd z vs cs nn h0 n0 _ T24.heap _
    rw [eq24]
    exact ⟨(by rw [(own_slen hs hn en).1]), N24, rfl⟩
theorem d6_0 : decode jdk_52_method_21_code 0 = .ok (.iconst 0, 1) := by decide +kernel
theorem d6_1 : decode jdk_52_method_21_code 1 = .ok (.istore 5, 2) := by decide +kernel
theorem d6_3 : decode jdk_52_method_21_code 3 = .ok (.iload 5, 2) := by decide +kernel
theorem d6_5 : decode jdk_52_method_21_code 5 = .ok (.iload 4, 2) := by decide +kernel
theorem d6_7 : decode jdk_52_method_21_code 7 = .ok (.if_icmp .ge 37, 3) := by decide +kernel
theorem d6_10 : decode jdk_52_method_21_code 10 = .ok (.aload_n 0, 1) := by decide +kernel
theorem d6_11 : decode jdk_52_method_21_code 11 = .ok (.iload_n 1, 1) := by decide +kernel
theorem d6_12 : decode jdk_52_method_21_code 12 = .ok (.caload, 1) := by decide +kernel
theorem d6_13 : decode jdk_52_method_21_code 13 = .ok (.istore 6, 2) := by decide +kernel
theorem d6_15 : decode jdk_52_method_21_code 15 = .ok (.iload 6, 2) := by decide +kernel
theorem d6_17 : decode jdk_52_method_21_code 17 = .ok (.sipush 255, 3) := by decide +kernel
theorem d6_20 : decode jdk_52_method_21_code 20 = .ok (.if_icmp .le 6, 3) := by decide +kernel
theorem d6_26 : decode jdk_52_method_21_code 26 = .ok (.aload_n 2, 1) := by decide +kernel
theorem d6_27 : decode jdk_52_method_21_code 27 = .ok (.iload_n 3, 1) := by decide +kernel
theorem d6_28 : decode jdk_52_method_21_code 28 = .ok (.iload 6, 2) := by decide +kernel
theorem d6_30 : decode jdk_52_method_21_code 30 = .ok (.i2b, 1) := by decide +kernel
theorem d6_31 : decode jdk_52_method_21_code 31 = .ok (.bastore, 1) := by decide +kernel
theorem d6_32 : decode jdk_52_method_21_code 32 = .ok (.iinc 1 1, 3) := by decide +kernel
theorem d6_35 : decode jdk_52_method_21_code 35 = .ok (.iinc 3 1, 3) := by decide +kernel
theorem d6_38 : decode jdk_52_method_21_code 38 = .ok (.iinc 5 1, 3) := by decide +kernel
theorem d6_41 : decode jdk_52_method_21_code 41 = .ok (.goto (-38), 3) := by decide +kernel
theorem d6_44 : decode jdk_52_method_21_code 44 = .ok (.iload 4, 2) := by decide +kernel
theorem d6_46 : decode jdk_52_method_21_code 46 = .ok (.ireturn, 1) := by decide +kernel
def Qc5L1 (Z : State) (G1 : Int32) (fm : Value) (a1 : Addr) (a2 : Addr) (ka : ClassId) (kb : ClassId) (c0 : Int32) (h0 : Heap) (n0 : Nat) (v : Option Value) (h : Heap) (L : List Loc) : Prop := v = some (.int 1) ∧ Fr n0 L ∧ Keep h0 h [a2] ∧ Arv Z h a2 kb .byte (1 : Int32) [(.int ((c0.toInt8.toInt32).toInt8.toInt32))] (.int 0)
theorem ef_jdk_52_method_21_code_RIRII (m : MethodId) (x0 : Addr) (x1 : Int32) (x2 : Addr) (x3 : Int32) (x4 : Int32) : entryFrame m #[.ref x0, .int x1, .ref x2, .int x3, .int x4] 7 = mkF m 0 #[.val (.ref x0), .val (.int x1), .val (.ref x2), .val (.int x3), .val (.int x4), .unset, .unset] [] := by first | (simp [entryFrame, mkF, argsToLocals, Value.category]; done) | rfl
abbrev y6 : MethodName := ⟨"java/lang/StringUTF16", "compress", "([CI[BII)I"⟩
theorem rmc5L1 (l : Launch) (Z : State) (a0 : Array Value) (G1 : Int32) (fm : Value) (hG : Glob Z a0 G1 fm) (ws : List Jvm.Cond) (a1 : Addr) (a2 : Addr) (ka : ClassId) (kb : ClassId) (c0 : Int32) (h0 : Heap) (n0 : Nat) (Z0 : n0 ≤ h0.size) (X00 : Old Z n0 h0) (V_a1 : Arv Z h0 a1 ka .char (1 : Int32) [.int c0] (.int 0)) (V_a2 : Arv Z h0 a2 kb .byte (1 : Int32) [.int 0] (.int 0)) (g_a2 : n0 ≤ a2) (ne_a1_a2 : a1 ≠ a2) (hl0 : ¬ ((255 : Int32) < c0)) :
    Met l Z h0 y6 jdk_52_method_21_code 7 (some .int) ws (Room.mk 0 0 0 0) #[.ref a1, .int 0, .ref a2, .int 0, .int 1] (Qc5L1 Z G1 fm a1 a2 ka kb c0 h0 n0) := by
  obtain ⟨hw, O_cs, P_cs, O_as, O_hi, O_lo, O_fm, R_fm⟩ := id hG
  have W := @own_W _ _ hw
  refine own_go "java/lang/StringUTF16" rfl (plainFor_of_name pn_java_lang_StringUTF16) ?_
  intro p e s m below meth c s₁ Bd hx hby hml hown hnm X0 e0 hZ
  have hB := @hb _ _ hby
  have N0 := Fr.nil n0
  obtain ⟨clq25, Arq25, qaq25, Sq25, Nq25, Hq25, Gq25⟩ := id V_a1
  have hinq25 := inb_of (j := (0 : Int32)) Sq25 ⟨by decide, by decide⟩
  have hatq25 := Has.at (v := (.int c0)) Hq25 hinq25 rfl
  obtain ⟨clq26, Arq26, qaq26, Sq26, Nq26, Hq26, Gq26⟩ := id V_a2
  have hinq26 := inb_of (j := (0 : Int32)) Sq26 ⟨by decide, by decide⟩
  obtain ⟨T27, h27, X27, e27, W27, st27⟩ := stB X0 hx hZ e0 Arq26 (j := (0 : Int32)) hinq26 (g := (mkF m 31 #[.val (.ref a1), .val (.int 0), .val (.ref a2), .val (.int 0), .val (.int 1), .val (.int 0), .val (.int c0)] [(.int (c0.toInt8.toInt32)), .int 0, .ref a2])) rfl rfl (hB d6_31)
  have V27 : Arv Z h27 a2 kb .byte (1 : Int32) [(.int ((c0.toInt8.toInt32).toInt8.toInt32))] (.int 0) := Arv.set Arq26 qaq26 Sq26 Nq26 Hq26 Gq26 (fits_nar_byte _) W27 0 rfl (own_ble rfl)
  have Z28 : n0 ≤ h27.size := Nat.le_trans Z0 (Keep.of_wr W27).1
  have K0_28 : Keep h0 h27 [a2] := (Keep.refl h0 [a2]).wr W27 (Or.inl (List.mem_of_getElem? (i := 0) rfl))
  have O28 : Old Z n0 h27 := X00.wr W27 g_a2
  have N27 := Fr.snoc X27 N0 g_a2
  obtain ⟨fs, hr, hrun, hended, hW, hsame⟩ := X27.leave (v := some (.int 1)) (fun h => by rw [Bd.returns] at h; cases h)
  refine ⟨_, _, castTop (ef_jdk_52_method_21_code_RIRII m a1 (0 : Int32) a2 (0 : Int32) (1 : Int32)) ?_, hrun, hended, _, _, rfl, ?_, ⟨_, rfl⟩, hW, hsame.mono (own_ble rfl) (own_ble rfl)⟩
  · show Steps _ _ _ (s₁.setTop (mkF m 0 #[.val (.ref a1), .val (.int 0), .val (.ref a2), .val (.int 0), .val (.int 1), .unset, .unset] [])) _
    refine XS.iconst X0.here hx rfl (hB d6_0) ?_
    refine XS.istore X0.here hx rfl (hB d6_1) rfl (l' := #[.val (.ref a1), .val (.int 0), .val (.ref a2), .val (.int 0), .val (.int 1), .val (.int 0), .unset]) rfl ?_
    refine XS.iload X0.here hx rfl (hB d6_3) rfl ?_
    refine XS.iload X0.here hx rfl (hB d6_5) rfl ?_
    refine XS.icmpNo X0.here hx rfl (hB d6_7) rfl (tlt (by decide : (0 : Int32) < (1 : Int32))).2.1 ?_
    refine XS.aloadN X0.here hx rfl (hB d6_10) rfl rfl ?_
    refine XS.iloadN X0.here hx rfl (hB d6_11) rfl ?_
    refine X0.caload hx (j := (0 : Int32)) (v := (.int c0)) (own_cell e0 Arq25.1) (State.isArrayOf_alike hZ.alike Arq25.2.1) Arq25.2.2 hinq25 hatq25 (g := (mkF m 12 #[.val (.ref a1), .val (.int 0), .val (.ref a2), .val (.int 0), .val (.int 1), .val (.int 0), .unset] [.int 0, .ref a1])) rfl rfl (hB d6_12) _ ?_
    refine XS.istore X0.here hx rfl (hB d6_13) rfl (l' := #[.val (.ref a1), .val (.int 0), .val (.ref a2), .val (.int 0), .val (.int 1), .val (.int 0), .val (.int c0)]) rfl ?_
    refine XS.iload X0.here hx rfl (hB d6_15) rfl ?_
    refine XS.sipush X0.here hx rfl (hB d6_17) ?_
    refine XS.icmpYes X0.here hx rfl (pc0 := 20) (pc' := 26) rfl (hB d6_20) rfl (flt (hl0 : ¬ ((255 : Int32) < c0))).2.2.2 (by decide) (by decide) ?_
    refine XS.aloadN X0.here hx rfl (hB d6_26) rfl rfl ?_
    refine XS.iloadN X0.here hx rfl (hB d6_27) rfl ?_
    refine XS.iload X0.here hx rfl (hB d6_28) rfl ?_
    refine XS.i2b X0.here hx rfl (hB d6_30) rfl ?_
    show Steps _ _ _ (s₁.setTop (mkF m 31 #[.val (.ref a1), .val (.int 0), .val (.ref a2), .val (.int 0), .val (.int 1), .val (.int 0), .val (.int c0)] [(.int (c0.toInt8.toInt32)), .int 0, .ref a2])) _
    refine st27 _ ?_
    show Steps _ _ _ (T27.setTop (mkF m 32 #[.val (.ref a1), .val (.int 0), .val (.ref a2), .val (.int 0), .val (.int 1), .val (.int 0), .val (.int c0)] [])) _
    refine XS.iinc X27.here hx rfl (hB d6_32) rfl (l' := #[.val (.ref a1), .val (.int 1), .val (.ref a2), .val (.int 0), .val (.int 1), .val (.int 0), .val (.int c0)]) rfl ?_
    refine XS.iinc X27.here hx rfl (hB d6_35) rfl (l' := #[.val (.ref a1), .val (.int 1), .val (.ref a2), .val (.int 1), .val (.int 1), .val (.int 0), .val (.int c0)]) rfl ?_
    refine XS.iinc X27.here hx rfl (hB d6_38) rfl (l' := #[.val (.ref a1), .val (.int 1), .val (.ref a2), .val (.int 1), .val (.int 1), .val (.int 1), .val (.int c0)]) rfl ?_
    refine XS.goto X27.here hx rfl (pc0 := 41) (pc' := 3) rfl (hB d6_41) (by decide) (by decide) ?_
    refine XS.iload X27.here hx rfl (hB d6_3) rfl ?_
    refine XS.iload X27.here hx rfl (hB d6_5) rfl ?_
    refine XS.icmpYes X27.here hx rfl (pc0 := 7) (pc' := 44) rfl (hB d6_7) rfl (flt (by decide : ¬ ((1 : Int32) < (1 : Int32)))).2.1 (by decide) (by decide) ?_
    refine XS.iload X27.here hx rfl (hB d6_44) rfl ?_
    exact retOut X27 hx Bd.returns rfl (Or.inl ⟨rfl, Or.inl rfl, _, rfl⟩) (hB d6_46) hr
  · show Qc5L1 Z G1 fm a1 a2 ka kb c0 h0 n0 _ T27.heap _
    rw [e27]
    exact ⟨rfl, N27, K0_28, V27⟩
theorem d6_23 : decode jdk_52_method_21_code 23 = .ok (.iload 5, 2) := by decide +kernel
theorem d6_25 : decode jdk_52_method_21_code 25 = .ok (.ireturn, 1) := by decide +kernel
def Qc5W1 (Z : State) (G1 : Int32) (fm : Value) (a1 : Addr) (a2 : Addr) (ka : ClassId) (kb : ClassId) (c0 : Int32) (h0 : Heap) (n0 : Nat) (v : Option Value) (h : Heap) (L : List Loc) : Prop := ∃ j : Int32, v = some (.int j) ∧ Fr n0 L ∧ Keep h0 h [a2] ∧ own_first j [c0]
theorem rmc5W1_0 (l : Launch) (Z : State) (a0 : Array Value) (G1 : Int32) (fm : Value) (hG : Glob Z a0 G1 fm) (ws : List Jvm.Cond) (a1 : Addr) (a2 : Addr) (ka : ClassId) (kb : ClassId) (c0 : Int32) (h0 : Heap) (n0 : Nat) (Z0 : n0 ≤ h0.size) (X00 : Old Z n0 h0) (V_a1 : Arv Z h0 a1 ka .char (1 : Int32) [.int c0] (.int 0)) (V_a2 : Arv Z h0 a2 kb .byte (1 : Int32) [.int 0] (.int 0)) (g_a2 : n0 ≤ a2) (ne_a1_a2 : a1 ≠ a2) (hwid : ¬ (¬ ((255 : Int32) < c0))) (hwd : (255 : Int32) < c0) :
    Met l Z h0 y6 jdk_52_method_21_code 7 (some .int) ws (Room.mk 0 0 0 0) #[.ref a1, .int 0, .ref a2, .int 0, .int 1] (Qc5W1 Z G1 fm a1 a2 ka kb c0 h0 n0) := by
  obtain ⟨hw, O_cs, P_cs, O_as, O_hi, O_lo, O_fm, R_fm⟩ := id hG
  have W := @own_W _ _ hw
  refine own_go "java/lang/StringUTF16" rfl (plainFor_of_name pn_java_lang_StringUTF16) ?_
  intro p e s m below meth c s₁ Bd hx hby hml hown hnm X0 e0 hZ
  have hB := @hb _ _ hby
  have N0 := Fr.nil n0
  obtain ⟨clq29, Arq29, qaq29, Sq29, Nq29, Hq29, Gq29⟩ := id V_a1
  have hinq29 := inb_of (j := (0 : Int32)) Sq29 ⟨by decide, by decide⟩
  have hatq29 := Has.at (v := (.int c0)) Hq29 hinq29 rfl
  obtain ⟨fs, hr, hrun, hended, hW, hsame⟩ := X0.leave (v := some (.int 0)) (fun h => by rw [Bd.returns] at h; cases h)
  refine ⟨_, _, castTop (ef_jdk_52_method_21_code_RIRII m a1 (0 : Int32) a2 (0 : Int32) (1 : Int32)) ?_, hrun, hended, _, _, rfl, ?_, ⟨_, rfl⟩, hW, hsame.mono (own_ble rfl) (own_ble rfl)⟩
  · show Steps _ _ _ (s₁.setTop (mkF m 0 #[.val (.ref a1), .val (.int 0), .val (.ref a2), .val (.int 0), .val (.int 1), .unset, .unset] [])) _
    refine XS.iconst X0.here hx rfl (hB d6_0) ?_
    refine XS.istore X0.here hx rfl (hB d6_1) rfl (l' := #[.val (.ref a1), .val (.int 0), .val (.ref a2), .val (.int 0), .val (.int 1), .val (.int 0), .unset]) rfl ?_
    refine XS.iload X0.here hx rfl (hB d6_3) rfl ?_
    refine XS.iload X0.here hx rfl (hB d6_5) rfl ?_
    refine XS.icmpNo X0.here hx rfl (hB d6_7) rfl (tlt (by decide : (0 : Int32) < (1 : Int32))).2.1 ?_
    refine XS.aloadN X0.here hx rfl (hB d6_10) rfl rfl ?_
    refine XS.iloadN X0.here hx rfl (hB d6_11) rfl ?_
    refine X0.caload hx (j := (0 : Int32)) (v := (.int c0)) (own_cell e0 Arq29.1) (State.isArrayOf_alike hZ.alike Arq29.2.1) Arq29.2.2 hinq29 hatq29 (g := (mkF m 12 #[.val (.ref a1), .val (.int 0), .val (.ref a2), .val (.int 0), .val (.int 1), .val (.int 0), .unset] [.int 0, .ref a1])) rfl rfl (hB d6_12) _ ?_
    refine XS.istore X0.here hx rfl (hB d6_13) rfl (l' := #[.val (.ref a1), .val (.int 0), .val (.ref a2), .val (.int 0), .val (.int 1), .val (.int 0), .val (.int c0)]) rfl ?_
    refine XS.iload X0.here hx rfl (hB d6_15) rfl ?_
    refine XS.sipush X0.here hx rfl (hB d6_17) ?_
    refine XS.icmpNo X0.here hx rfl (hB d6_20) rfl (tlt (hwd : (255 : Int32) < c0)).2.2.2 ?_
    refine XS.iload X0.here hx rfl (hB d6_23) rfl ?_
    exact retOut X0 hx Bd.returns rfl (Or.inl ⟨rfl, Or.inl rfl, _, rfl⟩) (hB d6_25) hr
  · show Qc5W1 Z G1 fm a1 a2 ka kb c0 h0 n0 _ s₁.heap _
    rw [e0]
    exact ⟨(0 : Int32), rfl, N0, (Keep.refl h0 [a2]), ⟨0, c0, rfl, rfl, hwd⟩⟩
theorem rmc5W1 (l : Launch) (Z : State) (a0 : Array Value) (G1 : Int32) (fm : Value) (hG : Glob Z a0 G1 fm) (ws : List Jvm.Cond) (a1 : Addr) (a2 : Addr) (ka : ClassId) (kb : ClassId) (c0 : Int32) (h0 : Heap) (n0 : Nat) (Z0 : n0 ≤ h0.size) (X00 : Old Z n0 h0) (V_a1 : Arv Z h0 a1 ka .char (1 : Int32) [.int c0] (.int 0)) (V_a2 : Arv Z h0 a2 kb .byte (1 : Int32) [.int 0] (.int 0)) (g_a2 : n0 ≤ a2) (ne_a1_a2 : a1 ≠ a2) (hwid : ¬ (¬ ((255 : Int32) < c0))) :
    Met l Z h0 y6 jdk_52_method_21_code 7 (some .int) ws (Room.mk 0 0 0 0) #[.ref a1, .int 0, .ref a2, .int 0, .int 1] (Qc5W1 Z G1 fm a1 a2 ka kb c0 h0 n0) := by
  by_cases q0 : (255 : Int32) < c0
  · exact rmc5W1_0 l Z a0 G1 fm hG ws a1 a2 ka kb c0 h0 n0 Z0 X00 V_a1 V_a2 g_a2 ne_a1_a2 hwid q0
  exact absurd q0 hwid
theorem d7_0 : decode jdk_52_method_3_code 0 = .ok (.iload_n 0, 1) := by decide +kernel
theorem d7_1 : decode jdk_52_method_3_code 1 = .ok (.ifCond .ge 11, 3) := by decide +kernel
theorem d7_12 : decode jdk_52_method_3_code 12 = .ok (.iload_n 0, 1) := by decide +kernel
theorem d7_13 : decode jdk_52_method_3_code 13 = .ok (.ldc 20, 2) := by decide +kernel
theorem d7_15 : decode jdk_52_method_3_code 15 = .ok (.if_icmp .lt 40, 3) := by decide +kernel
theorem d7_55 : decode jdk_52_method_3_code 55 = .ok (.iload_n 0, 1) := by decide +kernel
theorem d7_56 : decode jdk_52_method_3_code 56 = .ok (.iconst 1, 1) := by decide +kernel
theorem d7_57 : decode jdk_52_method_3_code 57 = .ok (.ishl, 1) := by decide +kernel
theorem d7_58 : decode jdk_52_method_3_code 58 = .ok (.ireturn, 1) := by decide +kernel
def Qnbl1 (Z : State) (G1 : Int32) (fm : Value) (h0 : Heap) (n0 : Nat) (v : Option Value) (h : Heap) (L : List Loc) : Prop := v = some (.int 2) ∧ Fr n0 L ∧ h = h0
theorem ef_jdk_52_method_3_code_I (m : MethodId) (x0 : Int32) : entryFrame m #[.int x0] 1 = mkF m 0 #[.val (.int x0)] [] := by first | (simp [entryFrame, mkF, argsToLocals, Value.category]; done) | rfl
abbrev y7 : MethodName := ⟨"java/lang/StringUTF16", "newBytesLength", "(I)I"⟩
theorem rmnbl1 (l : Launch) (Z : State) (a0 : Array Value) (G1 : Int32) (fm : Value) (hG : Glob Z a0 G1 fm) (ws : List Jvm.Cond) (h0 : Heap) (n0 : Nat) (Z0 : n0 ≤ h0.size) (X00 : Old Z n0 h0) :
    Met l Z h0 y7 jdk_52_method_3_code 1 (some .int) ws (Room.mk 0 0 0 0) #[.int 1] (Qnbl1 Z G1 fm h0 n0) := by
  obtain ⟨hw, O_cs, P_cs, O_as, O_hi, O_lo, O_fm, R_fm⟩ := id hG
  have W := @own_W _ _ hw
  refine own_go "java/lang/StringUTF16" rfl (plainFor_of_name pn_java_lang_StringUTF16) ?_
  intro p e s m below meth c s₁ Bd hx hby hml hown hnm X0 e0 hZ
  have hB := @hb _ _ hby
  have N0 := Fr.nil n0
  obtain ⟨fs, hr, hrun, hended, hW, hsame⟩ := X0.leave (v := some (.int 2)) (fun h => by rw [Bd.returns] at h; cases h)
  refine ⟨_, _, castTop (ef_jdk_52_method_3_code_I m (1 : Int32)) ?_, hrun, hended, _, _, rfl, ?_, ⟨_, rfl⟩, hW, hsame.mono (own_ble rfl) (own_ble rfl)⟩
  · show Steps _ _ _ (s₁.setTop (mkF m 0 #[.val (.int 1)] [])) _
    refine XS.iloadN X0.here hx rfl (hB d7_0) rfl ?_
    refine XS.ifYes X0.here hx rfl (pc0 := 1) (pc' := 12) rfl (hB d7_1) rfl ((if0 _ _).trans (flt (by decide : ¬ ((1 : Int32) < (0 : Int32)))).2.1) (by decide) (by decide) ?_
    refine XS.iloadN X0.here hx rfl (hB d7_12) rfl ?_
    refine X0.ldcInt hx hown (mvT hZ (W 96 rfl)) (g := (mkF m 13 #[.val (.int 1)] [.int 1])) rfl (hB d7_13) _ ?_
    refine XS.icmpYes X0.here hx rfl (pc0 := 15) (pc' := 55) rfl (hB d7_15) rfl (tlt (by decide : (1 : Int32) < (1073741823 : Int32))).1 (by decide) (by decide) ?_
    refine XS.iloadN X0.here hx rfl (hB d7_55) rfl ?_
    refine XS.iconst X0.here hx rfl (hB d7_56) ?_
    refine XS.ishl X0.here hx rfl (hB d7_57) rfl ?_
    exact retOut X0 hx Bd.returns rfl (Or.inl ⟨rfl, Or.inl rfl, _, rfl⟩) (hB d7_58) hr
  · show Qnbl1 Z G1 fm h0 n0 _ s₁.heap _
    rw [e0]
    exact ⟨rfl, N0, rfl⟩
theorem d8_0 : decode jdk_52_method_2_code 0 = .ok (.iload_n 0, 1) := by decide +kernel
theorem d8_1 : decode jdk_52_method_2_code 1 = .ok (.invokestatic 11, 3) := by decide +kernel
theorem pd__I_I : parseMethodDescriptor "(I)I" = some ⟨[.int], some .int⟩ := by decide +kernel
theorem d8_4 : decode jdk_52_method_2_code 4 = .ok (.newarray .byte, 2) := by decide +kernel
theorem d8_6 : decode jdk_52_method_2_code 6 = .ok (.areturn, 1) := by decide +kernel
def Qnbf1 (Z : State) (G1 : Int32) (fm : Value) (h0 : Heap) (n0 : Nat) (v : Option Value) (h : Heap) (L : List Loc) : Prop := ∃ b : Addr, ∃ kb : ClassId, v = some (.ref b) ∧ Fr n0 L ∧ Keep h0 h [] ∧ h0.size ≤ b ∧ Arv Z h b kb .byte (2 : Int32) [.int 0, .int 0] (.int 0)
theorem ef_jdk_52_method_2_code_I (m : MethodId) (x0 : Int32) : entryFrame m #[.int x0] 1 = mkF m 0 #[.val (.int x0)] [] := by first | (simp [entryFrame, mkF, argsToLocals, Value.category]; done) | rfl
abbrev y8 : MethodName := ⟨"java/lang/StringUTF16", "newBytesFor", "(I)[B"⟩
theorem rmnbf1 (l : Launch) (Z : State) (a0 : Array Value) (G1 : Int32) (fm : Value) (hG : Glob Z a0 G1 fm) (ws : List Jvm.Cond) (h0 : Heap) (n0 : Nat) (Z0 : n0 ≤ h0.size) (X00 : Old Z n0 h0) :
    Met l Z h0 y8 jdk_52_method_2_code 1 (some (.array .byte)) ws (Room.mk 1 1 2 12) #[.int 1] (Qnbf1 Z G1 fm h0 n0) := by
  obtain ⟨hw, O_cs, P_cs, O_as, O_hi, O_lo, O_fm, R_fm⟩ := id hG
  have W := @own_W _ _ hw
  refine own_go "java/lang/StringUTF16" rfl (plainFor_of_name pn_java_lang_StringUTF16) ?_
  intro p e s m below meth c s₁ Bd hx hby hml hown hnm X0 e0 hZ
  have hB := @hb _ _ hby
  have N0 := Fr.nil n0
  -- pc 1: java/lang/StringUTF16.newBytesLength
  obtain ⟨_, _, ⟨T30, L30, k30, n30⟩, -, X30, ⟨Lc30, hQ30, l30, y30, z30⟩, st30⟩ := Jvm.LawKit.callS X0 hx (y := y7) hown (mvT hZ (W 93 rfl)) (mvT hZ (W 94 rfl)) (mvT hZ (W 76 rfl)) (mvT hZ (W 95 rfl)) (by decide) (backOf (W := 0) (rmnbl1 l Z a0 G1 fm hG [] h0 n0 Z0 X00) hZ (W 95 rfl) (W 76 rfl) (by decide) (by decide)) (g := (mkF m 1 #[.val (.int 1)] [.int 1])) rfl (by rw [hml]; rfl) (argsL := [.int 1]) (rest := []) (lenOf pd__I_I rfl) rfl (by show 2 * 0 + _ ≤ _; exact Nat.le_of_eq rfl) (hB d8_1) (fun _ _ => ⟨rfl, e0, (by decide : 0 + 0 ≤ _), (by decide : 0 + 0 ≤ _)⟩)
  dsimp only [Pt.U, Pt.locs, Pt.cells, Pt.slots] at X30 l30 y30 z30 st30 hQ30
  subst l30 y30 z30
  obtain ⟨rfl, N30q, eq30⟩ := hQ30
  have N30 := Fr.app N0 N30q
  obtain ⟨T31, h31, k31, X31, e31, E31, A31, Q31, st31⟩ := newPE X30 hx hZ (W 23 rfl) eq30 (g := (mkF m 4 #[.val (.int 1)] [.int 2])) rfl (hB d8_4) rfl (by decide) (cap := 2) (by decide) (by decide) (by decide) (by decide) (ad := "[B") rfl
  obtain ⟨b31, g31⟩ : ∃ z, z = h0.size := ⟨_, rfl⟩
  rw [← g31] at A31 Q31 st31
  have Z32 : n0 ≤ h31.size := Nat.le_trans Z0 E31.1
  have K0_32 : Keep h0 h31 [] := (Keep.refl h0 []).ext E31
  have O32 : Old Z n0 h31 := X00.ext E31
  have lo_b31 : h0.size ≤ b31 := Nat.le_of_eq g31.symm
  have g_b31 : n0 ≤ b31 := Nat.le_trans Z0 lo_b31
  have l0_b31 : h0.size ≤ b31 := Nat.le_trans (Keep.refl h0 []).1 lo_b31
  have V_b31 : Arv Z h31 b31 k31 .byte (2 : Int32) [.int 0, .int 0] (.int 0) := (Arv.new A31 (by decide)).pad (pad_rep [] (.int 0) 2)
  obtain ⟨fs, hr, hrun, hended, hW, hsame⟩ := X31.leave (v := some (.ref b31)) (fun h => by rw [Bd.returns] at h; cases h)
  refine ⟨_, _, castTop (ef_jdk_52_method_2_code_I m (1 : Int32)) ?_, hrun, hended, _, _, rfl, ?_, ⟨_, rfl⟩, hW, hsame.mono (own_ble rfl) (own_ble rfl)⟩
  · show Steps _ _ _ (s₁.setTop (mkF m 0 #[.val (.int 1)] [])) _
    refine XS.iloadN X0.here hx rfl (hB d8_0) rfl ?_
    refine st30 _ ?_
    show Steps _ _ _ (T30.setTop (mkF m 4 #[.val (.int 1)] [.int 2])) _
    refine st31 _ ?_
    show Steps _ _ _ (T31.setTop (mkF m 6 #[.val (.int 1)] [.ref b31])) _
    exact retOut X31 hx Bd.returns rfl (Or.inr (Or.inr (Or.inr (Or.inr ⟨rfl, rfl, rfl⟩)))) (hB d8_6) hr
  · show Qnbf1 Z G1 fm h0 n0 _ T31.heap _
    rw [e31]
    exact ⟨b31, k31, rfl, N30, K0_32, l0_b31, V_b31⟩
theorem d9_0 : decode jdk_52_method_14_code 0 = .ok (.iload_n 2, 1) := by decide +kernel
theorem d9_1 : decode jdk_52_method_14_code 1 = .ok (.invokestatic 107, 3) := by decide +kernel
theorem pd__I__B : parseMethodDescriptor "(I)[B" = some ⟨[.int], some (.array .byte)⟩ := by decide +kernel
theorem d9_4 : decode jdk_52_method_14_code 4 = .ok (.astore_n 3, 1) := by decide +kernel
theorem d9_5 : decode jdk_52_method_14_code 5 = .ok (.iconst 0, 1) := by decide +kernel
theorem d9_6 : decode jdk_52_method_14_code 6 = .ok (.istore 4, 2) := by decide +kernel
theorem d9_8 : decode jdk_52_method_14_code 8 = .ok (.iload 4, 2) := by decide +kernel
theorem d9_10 : decode jdk_52_method_14_code 10 = .ok (.iload_n 2, 1) := by decide +kernel
theorem d9_11 : decode jdk_52_method_14_code 11 = .ok (.if_icmp .ge 21, 3) := by decide +kernel
theorem d9_14 : decode jdk_52_method_14_code 14 = .ok (.aload_n 3, 1) := by decide +kernel
theorem d9_15 : decode jdk_52_method_14_code 15 = .ok (.iload 4, 2) := by decide +kernel
theorem d9_17 : decode jdk_52_method_14_code 17 = .ok (.aload_n 0, 1) := by decide +kernel
theorem d9_18 : decode jdk_52_method_14_code 18 = .ok (.iload_n 1, 1) := by decide +kernel
theorem d9_19 : decode jdk_52_method_14_code 19 = .ok (.caload, 1) := by decide +kernel
theorem d9_20 : decode jdk_52_method_14_code 20 = .ok (.invokestatic 111, 3) := by decide +kernel
theorem pd___BII_V : parseMethodDescriptor "([BII)V" = some ⟨[(.array .byte), .int, .int], none⟩ := by decide +kernel
theorem d9_23 : decode jdk_52_method_14_code 23 = .ok (.iinc 1 1, 3) := by decide +kernel
theorem d9_26 : decode jdk_52_method_14_code 26 = .ok (.iinc 4 1, 3) := by decide +kernel
theorem d9_29 : decode jdk_52_method_14_code 29 = .ok (.goto (-21), 3) := by decide +kernel
theorem d9_32 : decode jdk_52_method_14_code 32 = .ok (.aload_n 3, 1) := by decide +kernel
theorem d9_33 : decode jdk_52_method_14_code 33 = .ok (.areturn, 1) := by decide +kernel
def Qtob1 (Z : State) (G1 : Int32) (fm : Value) (a1 : Addr) (ka : ClassId) (c0 : Int32) (h0 : Heap) (n0 : Nat) (v : Option Value) (h : Heap) (L : List Loc) : Prop := ∃ b : Addr, ∃ kb : ClassId, v = some (.ref b) ∧ Fr n0 L ∧ Keep h0 h [] ∧ h0.size ≤ b ∧ Arv Z h b kb .byte (2 : Int32) [(.int (((c0 >>> ((0 : Int32) &&& 31)).toInt8.toInt32).toInt8.toInt32)), (.int (((c0 >>> ((8 : Int32) &&& 31)).toInt8.toInt32).toInt8.toInt32))] (.int 0)
theorem ef_jdk_52_method_14_code_RII (m : MethodId) (x0 : Addr) (x1 : Int32) (x2 : Int32) : entryFrame m #[.ref x0, .int x1, .int x2] 5 = mkF m 0 #[.val (.ref x0), .val (.int x1), .val (.int x2), .unset, .unset] [] := by first | (simp [entryFrame, mkF, argsToLocals, Value.category]; done) | rfl
abbrev y9 : MethodName := ⟨"java/lang/StringUTF16", "toBytes", "([CII)[B"⟩
theorem rmtob1 (l : Launch) (Z : State) (a0 : Array Value) (G1 : Int32) (fm : Value) (hG : Glob Z a0 G1 fm) (ws : List Jvm.Cond) (a1 : Addr) (ka : ClassId) (c0 : Int32) (h0 : Heap) (n0 : Nat) (Z0 : n0 ≤ h0.size) (X00 : Old Z n0 h0) (V_a1 : Arv Z h0 a1 ka .char (1 : Int32) [.int c0] (.int 0)) :
    Met l Z h0 y9 jdk_52_method_14_code 5 (some (.array .byte)) ws (Room.mk 2 1 2 24) #[.ref a1, .int 0, .int 1] (Qtob1 Z G1 fm a1 ka c0 h0 n0) := by
  obtain ⟨hw, O_cs, P_cs, O_as, O_hi, O_lo, O_fm, R_fm⟩ := id hG
  have W := @own_W _ _ hw
  refine own_go "java/lang/StringUTF16" rfl (plainFor_of_name pn_java_lang_StringUTF16) ?_
  intro p e s m below meth c s₁ Bd hx hby hml hown hnm X0 e0 hZ
  have hB := @hb _ _ hby
  have N0 := Fr.nil n0
  -- pc 1: java/lang/StringUTF16.newBytesFor
  obtain ⟨_, _, ⟨T33, L33, k33, n33⟩, -, X33, ⟨Lc33, hQ33, l33, y33, z33⟩, st33⟩ := Jvm.LawKit.callS X0 hx (y := y8) hown (mvT hZ (W 90 rfl)) (mvT hZ (W 91 rfl)) (mvT hZ (W 76 rfl)) (mvT hZ (W 92 rfl)) (by decide) (backOf (W := 0) (rmnbf1 l Z a0 G1 fm hG [] h0 n0 Z0 X00) hZ (W 92 rfl) (W 76 rfl) (by decide) (by decide)) (g := (mkF m 1 #[.val (.ref a1), .val (.int 0), .val (.int 1), .unset, .unset] [.int 1])) rfl (by rw [hml]; rfl) (argsL := [.int 1]) (rest := []) (lenOf pd__I__B rfl) rfl (by show 2 * 0 + _ ≤ _; exact Nat.le_of_eq rfl) (hB d9_1) (fun _ _ => ⟨rfl, e0, (by decide : 0 + 1 ≤ _), (by decide : 0 + 2 ≤ _)⟩)
  dsimp only [Pt.U, Pt.locs, Pt.cells, Pt.slots] at X33 l33 y33 z33 st33 hQ33
  subst l33 y33 z33
  obtain ⟨b_33, kb_33, rfl, N33q, K33, f33_0, f33_1⟩ := hQ33
  have N33 := Fr.app N0 N33q
  have Z34 : n0 ≤ T33.heap.size := Nat.le_trans Z0 K33.1
  have K0_34 : Keep h0 T33.heap [] := (Keep.refl h0 []).trans K33 all0
  have O34 : Old Z n0 T33.heap := X00.keep K33 all0
  have lo_b_33 : h0.size ≤ b_33 := f33_0
  have g_b_33 : n0 ≤ b_33 := Nat.le_trans Z0 lo_b_33
  have l0_b_33 : h0.size ≤ b_33 := Nat.le_trans (Keep.refl h0 []).1 lo_b_33
  have f35 := (V_a1.keep K33 nin0)
  obtain ⟨clq36, Arq36, qaq36, Sq36, Nq36, Hq36, Gq36⟩ := id f35
  have hinq36 := inb_of (j := (0 : Int32)) Sq36 ⟨by decide, by decide⟩
  have hatq36 := Has.at (v := (.int c0)) Hq36 hinq36 rfl
  -- pc 20: java/lang/StringUTF16.putChar
  obtain ⟨_, _, ⟨T37, L37, k37, n37⟩, -, X37, ⟨Lc37, hQ37, l37, y37, z37⟩, st37⟩ := Jvm.LawKit.callS X33 hx (y := y1) hown (mvT hZ (W 97 rfl)) (mvT hZ (W 98 rfl)) (mvT hZ (W 76 rfl)) (mvT hZ (W 99 rfl)) (by decide) (backOf (W := 0) (rmput l Z a0 G1 fm hG [] b_33 kb_33 (2 : Int32) ([.int 0, .int 0] : List Value) (0 : Int32) 0 c0 T33.heap n0 Z34 O34 f33_1 g_b_33 (by decide) (by decide) (own_ble rfl) (by decide) (by decide) (own_ble rfl)) hZ (W 99 rfl) (W 76 rfl) (by decide) (by decide)) (g := (mkF m 20 #[.val (.ref a1), .val (.int 0), .val (.int 1), .val (.ref b_33), .val (.int 0)] [.int c0, .int 0, .ref b_33])) rfl (by rw [hml]; rfl) (argsL := [.ref b_33, .int 0, .int c0]) (rest := []) (lenOf pd___BII_V rfl) rfl (by show 2 * 0 + _ ≤ _; exact Nat.le_of_eq rfl) (hB d9_20) (fun _ _ => ⟨rfl, rfl, (by decide : 1 + 0 ≤ _), (by decide : 2 + 0 ≤ _)⟩)
  dsimp only [Pt.U, Pt.locs, Pt.cells, Pt.slots] at X37 l37 y37 z37 st37 hQ37
  subst l37 y37 z37
  obtain ⟨rfl, N37q, K37, f37_0⟩ := hQ37
  have N37 := Fr.app N33 N37q
  have Z38 : n0 ≤ T37.heap.size := Nat.le_trans Z34 K37.1
  have K0_38 : Keep h0 T37.heap [] := K0_34.trans K37 (allS (Or.inr l0_b_33) all0)
  have O38 : Old Z n0 T37.heap := O34.keep K37 (allS g_b_33 all0)
  have cv37 : Arv Z T37.heap b_33 kb_33 .byte (2 : Int32) [(.int (((c0 >>> ((0 : Int32) &&& 31)).toInt8.toInt32).toInt8.toInt32)), (.int (((c0 >>> ((8 : Int32) &&& 31)).toInt8.toInt32).toInt8.toInt32))] (.int 0) := f37_0
  obtain ⟨fs, hr, hrun, hended, hW, hsame⟩ := X37.leave (v := some (.ref b_33)) (fun h => by rw [Bd.returns] at h; cases h)
  refine ⟨_, _, castTop (ef_jdk_52_method_14_code_RII m a1 (0 : Int32) (1 : Int32)) ?_, hrun, hended, _, _, rfl, ?_, ⟨_, rfl⟩, hW, hsame.mono (own_ble rfl) (own_ble rfl)⟩
  · show Steps _ _ _ (s₁.setTop (mkF m 0 #[.val (.ref a1), .val (.int 0), .val (.int 1), .unset, .unset] [])) _
    refine XS.iloadN X0.here hx rfl (hB d9_0) rfl ?_
    refine st33 _ ?_
    show Steps _ _ _ (T33.setTop (mkF m 4 #[.val (.ref a1), .val (.int 0), .val (.int 1), .unset, .unset] [.ref b_33])) _
    refine XS.astoreN X33.here hx rfl (hB d9_4) rfl rfl (l' := #[.val (.ref a1), .val (.int 0), .val (.int 1), .val (.ref b_33), .unset]) rfl ?_
    refine XS.iconst X33.here hx rfl (hB d9_5) ?_
    refine XS.istore X33.here hx rfl (hB d9_6) rfl (l' := #[.val (.ref a1), .val (.int 0), .val (.int 1), .val (.ref b_33), .val (.int 0)]) rfl ?_
    refine XS.iload X33.here hx rfl (hB d9_8) rfl ?_
    refine XS.iloadN X33.here hx rfl (hB d9_10) rfl ?_
    refine XS.icmpNo X33.here hx rfl (hB d9_11) rfl (tlt (by decide : (0 : Int32) < (1 : Int32))).2.1 ?_
    refine XS.aloadN X33.here hx rfl (hB d9_14) rfl rfl ?_
    refine XS.iload X33.here hx rfl (hB d9_15) rfl ?_
    refine XS.aloadN X33.here hx rfl (hB d9_17) rfl rfl ?_
    refine XS.iloadN X33.here hx rfl (hB d9_18) rfl ?_
    refine X33.caload hx (j := (0 : Int32)) (v := (.int c0)) (own_cell rfl Arq36.1) (State.isArrayOf_alike hZ.alike Arq36.2.1) Arq36.2.2 hinq36 hatq36 (g := (mkF m 19 #[.val (.ref a1), .val (.int 0), .val (.int 1), .val (.ref b_33), .val (.int 0)] [.int 0, .ref a1, .int 0, .ref b_33])) rfl rfl (hB d9_19) _ ?_
    refine st37 _ ?_
    show Steps _ _ _ (T37.setTop (mkF m 23 #[.val (.ref a1), .val (.int 0), .val (.int 1), .val (.ref b_33), .val (.int 0)] [])) _
    refine XS.iinc X37.here hx rfl (hB d9_23) rfl (l' := #[.val (.ref a1), .val (.int 1), .val (.int 1), .val (.ref b_33), .val (.int 0)]) rfl ?_
    refine XS.iinc X37.here hx rfl (hB d9_26) rfl (l' := #[.val (.ref a1), .val (.int 1), .val (.int 1), .val (.ref b_33), .val (.int 1)]) rfl ?_
    refine XS.goto X37.here hx rfl (pc0 := 29) (pc' := 8) rfl (hB d9_29) (by decide) (by decide) ?_
    refine XS.iload X37.here hx rfl (hB d9_8) rfl ?_
    refine XS.iloadN X37.here hx rfl (hB d9_10) rfl ?_
    refine XS.icmpYes X37.here hx rfl (pc0 := 11) (pc' := 32) rfl (hB d9_11) rfl (flt (by decide : ¬ ((1 : Int32) < (1 : Int32)))).2.1 (by decide) (by decide) ?_
    refine XS.aloadN X37.here hx rfl (hB d9_32) rfl rfl ?_
    exact retOut X37 hx Bd.returns rfl (Or.inr (Or.inr (Or.inr (Or.inr ⟨rfl, rfl, rfl⟩)))) (hB d9_33) hr
  · show Qtob1 Z G1 fm a1 ka c0 h0 n0 _ T37.heap _
    exact ⟨b_33, kb_33, rfl, N37, K0_38, l0_b_33, cv37⟩
theorem d10_0 : decode jdk_52_method_16_code 0 = .ok (.iload_n 2, 1) := by decide +kernel
theorem d10_1 : decode jdk_52_method_16_code 1 = .ok (.newarray .byte, 2) := by decide +kernel
theorem d10_3 : decode jdk_52_method_16_code 3 = .ok (.astore_n 3, 1) := by decide +kernel
theorem d10_4 : decode jdk_52_method_16_code 4 = .ok (.aload_n 0, 1) := by decide +kernel
theorem d10_5 : decode jdk_52_method_16_code 5 = .ok (.iload_n 1, 1) := by decide +kernel
theorem d10_6 : decode jdk_52_method_16_code 6 = .ok (.aload_n 3, 1) := by decide +kernel
theorem d10_7 : decode jdk_52_method_16_code 7 = .ok (.iconst 0, 1) := by decide +kernel
theorem d10_8 : decode jdk_52_method_16_code 8 = .ok (.iload_n 2, 1) := by decide +kernel
theorem d10_9 : decode jdk_52_method_16_code 9 = .ok (.invokestatic 115, 3) := by decide +kernel
theorem pd___CI_BII_I : parseMethodDescriptor "([CI[BII)I" = some ⟨[(.array .char), .int, (.array .byte), .int, .int], some .int⟩ := by decide +kernel
theorem d10_12 : decode jdk_52_method_16_code 12 = .ok (.istore 4, 2) := by decide +kernel
theorem d10_14 : decode jdk_52_method_16_code 14 = .ok (.iload 4, 2) := by decide +kernel
theorem d10_16 : decode jdk_52_method_16_code 16 = .ok (.iload_n 2, 1) := by decide +kernel
theorem d10_17 : decode jdk_52_method_16_code 17 = .ok (.if_icmp .eq 40, 3) := by decide +kernel
theorem d10_57 : decode jdk_52_method_16_code 57 = .ok (.aload_n 3, 1) := by decide +kernel
theorem d10_58 : decode jdk_52_method_16_code 58 = .ok (.areturn, 1) := by decide +kernel
def Qc3L1 (Z : State) (G1 : Int32) (fm : Value) (a1 : Addr) (ka : ClassId) (c0 : Int32) (h0 : Heap) (n0 : Nat) (v : Option Value) (h : Heap) (L : List Loc) : Prop := ∃ b : Addr, ∃ kb : ClassId, v = some (.ref b) ∧ Fr n0 L ∧ Keep h0 h [] ∧ h0.size ≤ b ∧ Arv Z h b kb .byte (1 : Int32) [(.int ((c0.toInt8.toInt32).toInt8.toInt32))] (.int 0)
theorem ef_jdk_52_method_16_code_RII (m : MethodId) (x0 : Addr) (x1 : Int32) (x2 : Int32) : entryFrame m #[.ref x0, .int x1, .int x2] 6 = mkF m 0 #[.val (.ref x0), .val (.int x1), .val (.int x2), .unset, .unset, .unset] [] := by first | (simp [entryFrame, mkF, argsToLocals, Value.category]; done) | rfl
abbrev y10 : MethodName := ⟨"java/lang/StringUTF16", "compress", "([CII)[B"⟩
theorem rmc3L1 (l : Launch) (Z : State) (a0 : Array Value) (G1 : Int32) (fm : Value) (hG : Glob Z a0 G1 fm) (ws : List Jvm.Cond) (a1 : Addr) (ka : ClassId) (c0 : Int32) (h0 : Heap) (n0 : Nat) (Z0 : n0 ≤ h0.size) (X00 : Old Z n0 h0) (V_a1 : Arv Z h0 a1 ka .char (1 : Int32) [.int c0] (.int 0)) (hl0 : ¬ ((255 : Int32) < c0)) :
    Met l Z h0 y10 jdk_52_method_16_code 6 (some (.array .byte)) ws (Room.mk 1 1 1 18) #[.ref a1, .int 0, .int 1] (Qc3L1 Z G1 fm a1 ka c0 h0 n0) := by
  obtain ⟨hw, O_cs, P_cs, O_as, O_hi, O_lo, O_fm, R_fm⟩ := id hG
  have W := @own_W _ _ hw
  refine own_go "java/lang/StringUTF16" rfl (plainFor_of_name pn_java_lang_StringUTF16) ?_
  intro p e s m below meth c s₁ Bd hx hby hml hown hnm X0 e0 hZ
  have hB := @hb _ _ hby
  have N0 := Fr.nil n0
  obtain ⟨T39, h39, k39, X39, e39, E39, A39, Q39, st39⟩ := newPE X0 hx hZ (W 23 rfl) e0 (g := (mkF m 1 #[.val (.ref a1), .val (.int 0), .val (.int 1), .unset, .unset, .unset] [.int 1])) rfl (hB d10_1) rfl (by decide) (cap := 1) (by decide) (by decide) (by decide) (by decide) (ad := "[B") rfl
  obtain ⟨b39, g39⟩ : ∃ z, z = h0.size := ⟨_, rfl⟩
  rw [← g39] at A39 Q39 st39
  have Z40 : n0 ≤ h39.size := Nat.le_trans Z0 E39.1
  have K0_40 : Keep h0 h39 [] := (Keep.refl h0 []).ext E39
  have O40 : Old Z n0 h39 := X00.ext E39
  have lo_b39 : h0.size ≤ b39 := Nat.le_of_eq g39.symm
  have g_b39 : n0 ≤ b39 := Nat.le_trans Z0 lo_b39
  have l0_b39 : h0.size ≤ b39 := Nat.le_trans (Keep.refl h0 []).1 lo_b39
  have V_b39 : Arv Z h39 b39 k39 .byte (1 : Int32) [.int 0] (.int 0) := (Arv.new A39 (by decide)).pad (pad_rep [] (.int 0) 1)
  have f42 := (V_a1.ext E39)
  -- pc 9: java/lang/StringUTF16.compress
  obtain ⟨_, _, ⟨T41, L41, k41, n41⟩, -, X41, ⟨Lc41, hQ41, l41, y41, z41⟩, st41⟩ := Jvm.LawKit.callS X39 hx (y := y6) hown (mvT hZ (W 78 rfl)) (mvT hZ (W 79 rfl)) (mvT hZ (W 76 rfl)) (mvT hZ (W 80 rfl)) (by decide) (backOf (W := 0) (rmc5L1 l Z a0 G1 fm hG [] a1 b39 ka k39 c0 h39 n0 Z40 O40 f42 V_b39 g_b39 (Nat.ne_of_lt (Nat.lt_of_lt_of_le V_a1.lt lo_b39)) (by first | assumption | decide | rfl)) hZ (W 80 rfl) (W 76 rfl) (by decide) (by decide)) (g := (mkF m 9 #[.val (.ref a1), .val (.int 0), .val (.int 1), .val (.ref b39), .unset, .unset] [.int 1, .int 0, .ref b39, .int 0, .ref a1])) rfl (by rw [hml]; rfl) (argsL := [.ref a1, .int 0, .ref b39, .int 0, .int 1]) (rest := []) (lenOf pd___CI_BII_I rfl) rfl (by show 2 * 0 + _ ≤ _; exact Nat.le_of_eq rfl) (hB d10_9) (fun _ _ => ⟨rfl, e39, (by decide : 1 + 0 ≤ _), (by decide : 1 + 0 ≤ _)⟩)
  dsimp only [Pt.U, Pt.locs, Pt.cells, Pt.slots] at X41 l41 y41 z41 st41 hQ41
  subst l41 y41 z41
  obtain ⟨rfl, N41q, K41, f41_0⟩ := hQ41
  have N41 := Fr.app N0 N41q
  have Z43 : n0 ≤ T41.heap.size := Nat.le_trans Z40 K41.1
  have K0_43 : Keep h0 T41.heap [] := K0_40.trans K41 (allS (Or.inr l0_b39) all0)
  have O43 : Old Z n0 T41.heap := O40.keep K41 (allS g_b39 all0)
  obtain ⟨fs, hr, hrun, hended, hW, hsame⟩ := X41.leave (v := some (.ref b39)) (fun h => by rw [Bd.returns] at h; cases h)
  refine ⟨_, _, castTop (ef_jdk_52_method_16_code_RII m a1 (0 : Int32) (1 : Int32)) ?_, hrun, hended, _, _, rfl, ?_, ⟨_, rfl⟩, hW, hsame.mono (own_ble rfl) (own_ble rfl)⟩
  · show Steps _ _ _ (s₁.setTop (mkF m 0 #[.val (.ref a1), .val (.int 0), .val (.int 1), .unset, .unset, .unset] [])) _
    refine XS.iloadN X0.here hx rfl (hB d10_0) rfl ?_
    refine st39 _ ?_
    show Steps _ _ _ (T39.setTop (mkF m 3 #[.val (.ref a1), .val (.int 0), .val (.int 1), .unset, .unset, .unset] [.ref b39])) _
    refine XS.astoreN X39.here hx rfl (hB d10_3) rfl rfl (l' := #[.val (.ref a1), .val (.int 0), .val (.int 1), .val (.ref b39), .unset, .unset]) rfl ?_
    refine XS.aloadN X39.here hx rfl (hB d10_4) rfl rfl ?_
    refine XS.iloadN X39.here hx rfl (hB d10_5) rfl ?_
    refine XS.aloadN X39.here hx rfl (hB d10_6) rfl rfl ?_
    refine XS.iconst X39.here hx rfl (hB d10_7) ?_
    refine XS.iloadN X39.here hx rfl (hB d10_8) rfl ?_
    refine st41 _ ?_
    show Steps _ _ _ (T41.setTop (mkF m 12 #[.val (.ref a1), .val (.int 0), .val (.int 1), .val (.ref b39), .unset, .unset] [.int 1])) _
    refine XS.istore X41.here hx rfl (hB d10_12) rfl (l' := #[.val (.ref a1), .val (.int 0), .val (.int 1), .val (.ref b39), .val (.int 1), .unset]) rfl ?_
    refine XS.iload X41.here hx rfl (hB d10_14) rfl ?_
    refine XS.iloadN X41.here hx rfl (hB d10_16) rfl ?_
    refine XS.icmpYes X41.here hx rfl (pc0 := 17) (pc' := 57) rfl (hB d10_17) rfl (teq (by decide : (1 : Int32) = (1 : Int32))).1 (by decide) (by decide) ?_
    refine XS.aloadN X41.here hx rfl (hB d10_57) rfl rfl ?_
    exact retOut X41 hx Bd.returns rfl (Or.inr (Or.inr (Or.inr (Or.inr ⟨rfl, rfl, rfl⟩)))) (hB d10_58) hr
  · show Qc3L1 Z G1 fm a1 ka c0 h0 n0 _ T41.heap _
    exact ⟨b39, k39, rfl, N41, K0_43, l0_b39, f41_0⟩
theorem d10_20 : decode jdk_52_method_16_code 20 = .ok (.aload_n 0, 1) := by decide +kernel
theorem d10_21 : decode jdk_52_method_16_code 21 = .ok (.iload_n 1, 1) := by decide +kernel
theorem d10_22 : decode jdk_52_method_16_code 22 = .ok (.iload_n 2, 1) := by decide +kernel
theorem d10_23 : decode jdk_52_method_16_code 23 = .ok (.invokestatic 119, 3) := by decide +kernel
theorem pd___CII__B : parseMethodDescriptor "([CII)[B" = some ⟨[(.array .char), .int, .int], some (.array .byte)⟩ := by decide +kernel
theorem d10_26 : decode jdk_52_method_16_code 26 = .ok (.astore 5, 2) := by decide +kernel
theorem d10_28 : decode jdk_52_method_16_code 28 = .ok (.aload 5, 2) := by decide +kernel
theorem d10_30 : decode jdk_52_method_16_code 30 = .ok (.iload 4, 2) := by decide +kernel
theorem d10_32 : decode jdk_52_method_16_code 32 = .ok (.invokestatic 71, 3) := by decide +kernel
theorem pd___BI_C : parseMethodDescriptor "([BI)C" = some ⟨[(.array .byte), .int], some .char⟩ := by decide +kernel
theorem d10_35 : decode jdk_52_method_16_code 35 = .ok (.sipush 255, 3) := by decide +kernel
theorem d10_38 : decode jdk_52_method_16_code 38 = .ok (.if_icmp .gt 16, 3) := by decide +kernel
theorem d10_54 : decode jdk_52_method_16_code 54 = .ok (.aload 5, 2) := by decide +kernel
theorem d10_56 : decode jdk_52_method_16_code 56 = .ok (.areturn, 1) := by decide +kernel
def Qc3W1 (Z : State) (G1 : Int32) (fm : Value) (a1 : Addr) (ka : ClassId) (c0 : Int32) (h0 : Heap) (n0 : Nat) (v : Option Value) (h : Heap) (L : List Loc) : Prop := ∃ b : Addr, ∃ kb : ClassId, v = some (.ref b) ∧ Fr n0 L ∧ Keep h0 h [] ∧ h0.size ≤ b ∧ Arv Z h b kb .byte (2 : Int32) [(.int (((c0 >>> ((0 : Int32) &&& 31)).toInt8.toInt32).toInt8.toInt32)), (.int (((c0 >>> ((8 : Int32) &&& 31)).toInt8.toInt32).toInt8.toInt32))] (.int 0)
theorem rmc3W1 (l : Launch) (Z : State) (a0 : Array Value) (G1 : Int32) (fm : Value) (hG : Glob Z a0 G1 fm) (ws : List Jvm.Cond) (a1 : Addr) (ka : ClassId) (c0 : Int32) (h0 : Heap) (n0 : Nat) (Z0 : n0 ≤ h0.size) (X00 : Old Z n0 h0) (V_a1 : Arv Z h0 a1 ka .char (1 : Int32) [.int c0] (.int 0)) (hwid : ¬ (¬ ((255 : Int32) < c0))) (hu : ∀ c ∈ ([c0] : List Int32), own_u16 c) :
    Met l Z h0 y10 jdk_52_method_16_code 6 (some (.array .byte)) ws (Room.mk 3 2 3 40) #[.ref a1, .int 0, .int 1] (Qc3W1 Z G1 fm a1 ka c0 h0 n0) := by
  obtain ⟨hw, O_cs, P_cs, O_as, O_hi, O_lo, O_fm, R_fm⟩ := id hG
  have W := @own_W _ _ hw
  refine own_go "java/lang/StringUTF16" rfl (plainFor_of_name pn_java_lang_StringUTF16) ?_
  intro p e s m below meth c s₁ Bd hx hby hml hown hnm X0 e0 hZ
  have hB := @hb _ _ hby
  have N0 := Fr.nil n0
  obtain ⟨T44, h44, k44, X44, e44, E44, A44, Q44, st44⟩ := newPE X0 hx hZ (W 23 rfl) e0 (g := (mkF m 1 #[.val (.ref a1), .val (.int 0), .val (.int 1), .unset, .unset, .unset] [.int 1])) rfl (hB d10_1) rfl (by decide) (cap := 1) (by decide) (by decide) (by decide) (by decide) (ad := "[B") rfl
  obtain ⟨b44, g44⟩ : ∃ z, z = h0.size := ⟨_, rfl⟩
  rw [← g44] at A44 Q44 st44
  have Z45 : n0 ≤ h44.size := Nat.le_trans Z0 E44.1
  have K0_45 : Keep h0 h44 [] := (Keep.refl h0 []).ext E44
  have O45 : Old Z n0 h44 := X00.ext E44
  have lo_b44 : h0.size ≤ b44 := Nat.le_of_eq g44.symm
  have g_b44 : n0 ≤ b44 := Nat.le_trans Z0 lo_b44
  have l0_b44 : h0.size ≤ b44 := Nat.le_trans (Keep.refl h0 []).1 lo_b44
  have V_b44 : Arv Z h44 b44 k44 .byte (1 : Int32) [.int 0] (.int 0) := (Arv.new A44 (by decide)).pad (pad_rep [] (.int 0) 1)
  have f47 := (V_a1.ext E44)
  -- pc 9: java/lang/StringUTF16.compress
  obtain ⟨_, _, ⟨T46, L46, k46, n46⟩, -, X46, ⟨Lc46, hQ46, l46, y46, z46⟩, st46⟩ := Jvm.LawKit.callS X44 hx (y := y6) hown (mvT hZ (W 78 rfl)) (mvT hZ (W 79 rfl)) (mvT hZ (W 76 rfl)) (mvT hZ (W 80 rfl)) (by decide) (backOf (W := 0) (rmc5W1 l Z a0 G1 fm hG [] a1 b44 ka k44 c0 h44 n0 Z45 O45 f47 V_b44 g_b44 (Nat.ne_of_lt (Nat.lt_of_lt_of_le V_a1.lt lo_b44)) (by first | assumption | decide | rfl)) hZ (W 80 rfl) (W 76 rfl) (by decide) (by decide)) (g := (mkF m 9 #[.val (.ref a1), .val (.int 0), .val (.int 1), .val (.ref b44), .unset, .unset] [.int 1, .int 0, .ref b44, .int 0, .ref a1])) rfl (by rw [hml]; rfl) (argsL := [.ref a1, .int 0, .ref b44, .int 0, .int 1]) (rest := []) (lenOf pd___CI_BII_I rfl) rfl (by show 2 * 0 + _ ≤ _; exact Nat.le_of_eq rfl) (hB d10_9) (fun _ _ => ⟨rfl, e44, (by decide : 1 + 0 ≤ _), (by decide : 1 + 0 ≤ _)⟩)
  dsimp only [Pt.U, Pt.locs, Pt.cells, Pt.slots] at X46 l46 y46 z46 st46 hQ46
  subst l46 y46 z46
  obtain ⟨j_46, rfl, N46q, K46, f46_0⟩ := hQ46
  have N46 := Fr.app N0 N46q
  have Z48 : n0 ≤ T46.heap.size := Nat.le_trans Z45 K46.1
  have K0_48 : Keep h0 T46.heap [] := K0_45.trans K46 (allS (Or.inr l0_b44) all0)
  have O48 : Old Z n0 T46.heap := O45.keep K46 (allS g_b44 all0)
  have f50 := (f47.keep K46 (ninS (Nat.ne_of_lt (Nat.lt_of_lt_of_le V_a1.lt lo_b44)) nin0))
  -- pc 23: java/lang/StringUTF16.toBytes
  obtain ⟨_, _, ⟨T49, L49, k49, n49⟩, -, X49, ⟨Lc49, hQ49, l49, y49, z49⟩, st49⟩ := Jvm.LawKit.callS X46 hx (y := y9) hown (mvT hZ (W 87 rfl)) (mvT hZ (W 88 rfl)) (mvT hZ (W 76 rfl)) (mvT hZ (W 89 rfl)) (by decide) (backOf (W := 0) (rmtob1 l Z a0 G1 fm hG [] a1 ka c0 T46.heap n0 Z48 O48 f50) hZ (W 89 rfl) (W 76 rfl) (by decide) (by decide)) (g := (mkF m 23 #[.val (.ref a1), .val (.int 0), .val (.int 1), .val (.ref b44), .val (.int j_46), .unset] [.int 1, .int 0, .ref a1])) rfl (by rw [hml]; rfl) (argsL := [.ref a1, .int 0, .int 1]) (rest := []) (lenOf pd___CII__B rfl) rfl (by show 2 * 0 + _ ≤ _; exact Nat.le_of_eq rfl) (hB d10_23) (fun _ _ => ⟨rfl, rfl, (by decide : 1 + 1 ≤ _), (by decide : 1 + 2 ≤ _)⟩)
  dsimp only [Pt.U, Pt.locs, Pt.cells, Pt.slots] at X49 l49 y49 z49 st49 hQ49
  subst l49 y49 z49
  obtain ⟨b_49, kb_49, rfl, N49q, K49, f49_0, f49_1⟩ := hQ49
  have N49 := Fr.app N46 N49q
  have Z51 : n0 ≤ T49.heap.size := Nat.le_trans Z48 K49.1
  have K0_51 : Keep h0 T49.heap [] := K0_48.trans K49 all0
  have O51 : Old Z n0 T49.heap := O48.keep K49 all0
  have lo_b_49 : T46.heap.size ≤ b_49 := f49_0
  have g_b_49 : n0 ≤ b_49 := Nat.le_trans Z48 lo_b_49
  have l0_b_49 : h0.size ≤ b_49 := Nat.le_trans K0_48.1 lo_b_49
  obtain ⟨K_, c_, hi_, hg_, hw_⟩ := id f46_0
  -- pc 32: java/lang/StringUTF16.getChar
  obtain ⟨_, _, ⟨T52, L52, k52, n52⟩, -, X52, ⟨Lc52, hQ52, l52, y52, z52⟩, st52⟩ := Jvm.LawKit.callS X49 hx (y := y0) hown (mvT hZ (W 103 rfl)) (mvT hZ (W 104 rfl)) (mvT hZ (W 76 rfl)) (mvT hZ (W 105 rfl)) (by decide) (backOf (W := 0) (rmgch l Z a0 G1 fm hG [] b_49 kb_49 (2 : Int32) ([(.int (((c0 >>> ((0 : Int32) &&& 31)).toInt8.toInt32).toInt8.toInt32)), (.int (((c0 >>> ((8 : Int32) &&& 31)).toInt8.toInt32).toInt8.toInt32))] : List Value) j_46 ([c0] : List Int32) K_ c_ T49.heap n0 Z51 O51 f49_1 rfl rfl (own_ble rfl) hu hi_ hg_) hZ (W 105 rfl) (W 76 rfl) (by decide) (by decide)) (g := (mkF m 32 #[.val (.ref a1), .val (.int 0), .val (.int 1), .val (.ref b44), .val (.int j_46), .val (.ref b_49)] [.int j_46, .ref b_49])) rfl (by rw [hml]; rfl) (argsL := [.ref b_49, .int j_46]) (rest := []) (lenOf pd___BI_C rfl) rfl (by show 2 * 0 + _ ≤ _; exact Nat.le_of_eq rfl) (hB d10_32) (fun _ _ => ⟨rfl, rfl, (by decide : 2 + 0 ≤ _), (by decide : 3 + 0 ≤ _)⟩)
  dsimp only [Pt.U, Pt.locs, Pt.cells, Pt.slots] at X52 l52 y52 z52 st52 hQ52
  subst l52 y52 z52
  obtain ⟨rfl, N52q, eq52⟩ := hQ52
  have N52 := Fr.app N49 N52q
  obtain ⟨fs, hr, hrun, hended, hW, hsame⟩ := X52.leave (v := some (.ref b_49)) (fun h => by rw [Bd.returns] at h; cases h)
  refine ⟨_, _, castTop (ef_jdk_52_method_16_code_RII m a1 (0 : Int32) (1 : Int32)) ?_, hrun, hended, _, _, rfl, ?_, ⟨_, rfl⟩, hW, hsame.mono (own_ble rfl) (own_ble rfl)⟩
  · show Steps _ _ _ (s₁.setTop (mkF m 0 #[.val (.ref a1), .val (.int 0), .val (.int 1), .unset, .unset, .unset] [])) _
    refine XS.iloadN X0.here hx rfl (hB d10_0) rfl ?_
    refine st44 _ ?_
    show Steps _ _ _ (T44.setTop (mkF m 3 #[.val (.ref a1), .val (.int 0), .val (.int 1), .unset, .unset, .unset] [.ref b44])) _
    refine XS.astoreN X44.here hx rfl (hB d10_3) rfl rfl (l' := #[.val (.ref a1), .val (.int 0), .val (.int 1), .val (.ref b44), .unset, .unset]) rfl ?_
    refine XS.aloadN X44.here hx rfl (hB d10_4) rfl rfl ?_
    refine XS.iloadN X44.here hx rfl (hB d10_5) rfl ?_
    refine XS.aloadN X44.here hx rfl (hB d10_6) rfl rfl ?_
    refine XS.iconst X44.here hx rfl (hB d10_7) ?_
    refine XS.iloadN X44.here hx rfl (hB d10_8) rfl ?_
    refine st46 _ ?_
    show Steps _ _ _ (T46.setTop (mkF m 12 #[.val (.ref a1), .val (.int 0), .val (.int 1), .val (.ref b44), .unset, .unset] [.int j_46])) _
    refine XS.istore X46.here hx rfl (hB d10_12) rfl (l' := #[.val (.ref a1), .val (.int 0), .val (.int 1), .val (.ref b44), .val (.int j_46), .unset]) rfl ?_
    refine XS.iload X46.here hx rfl (hB d10_14) rfl ?_
    refine XS.iloadN X46.here hx rfl (hB d10_16) rfl ?_
    refine XS.icmpNo X46.here hx rfl (hB d10_17) rfl (feq (own_fne (cs := [c0]) (own_ble rfl) f46_0 : ¬ (j_46 = (1 : Int32)))).1 ?_
    refine XS.aloadN X46.here hx rfl (hB d10_20) rfl rfl ?_
    refine XS.iloadN X46.here hx rfl (hB d10_21) rfl ?_
    refine XS.iloadN X46.here hx rfl (hB d10_22) rfl ?_
    refine st49 _ ?_
    show Steps _ _ _ (T49.setTop (mkF m 26 #[.val (.ref a1), .val (.int 0), .val (.int 1), .val (.ref b44), .val (.int j_46), .unset] [.ref b_49])) _
    refine XS.astore X49.here hx rfl (hB d10_26) rfl rfl (l' := #[.val (.ref a1), .val (.int 0), .val (.int 1), .val (.ref b44), .val (.int j_46), .val (.ref b_49)]) rfl ?_
    refine XS.aload X49.here hx rfl (hB d10_28) rfl rfl ?_
    refine XS.iload X49.here hx rfl (hB d10_30) rfl ?_
    refine st52 _ ?_
    show Steps _ _ _ (T52.setTop (mkF m 35 #[.val (.ref a1), .val (.int 0), .val (.int 1), .val (.ref b44), .val (.int j_46), .val (.ref b_49)] [.int c_])) _
    refine XS.sipush X52.here hx rfl (hB d10_35) ?_
    refine XS.icmpYes X52.here hx rfl (pc0 := 38) (pc' := 54) rfl (hB d10_38) rfl (tlt (hw_ : (255 : Int32) < c_)).2.2.1 (by decide) (by decide) ?_
    refine XS.aload X52.here hx rfl (hB d10_54) rfl rfl ?_
    exact retOut X52 hx Bd.returns rfl (Or.inr (Or.inr (Or.inr (Or.inr ⟨rfl, rfl, rfl⟩)))) (hB d10_56) hr
  · show Qc3W1 Z G1 fm a1 ka c0 h0 n0 _ T52.heap _
    rw [eq52]
    exact ⟨b_49, kb_49, rfl, N52, K0_51, l0_b_49, f49_1⟩
theorem d11_0 : decode jdk_52_method_15_code 0 = .ok (.iload_n 1, 1) := by decide +kernel
theorem d11_1 : decode jdk_52_method_15_code 1 = .ok (.aload_n 0, 1) := by decide +kernel
theorem d11_2 : decode jdk_52_method_15_code 2 = .ok (.arraylength, 1) := by decide +kernel
theorem d11_3 : decode jdk_52_method_15_code 3 = .ok (.isub, 1) := by decide +kernel
theorem d11_4 : decode jdk_52_method_15_code 4 = .ok (.bipush 31, 2) := by decide +kernel
theorem d11_6 : decode jdk_52_method_15_code 6 = .ok (.iushr, 1) := by decide +kernel
theorem d11_7 : decode jdk_52_method_15_code 7 = .ok (.i2b, 1) := by decide +kernel
theorem d11_8 : decode jdk_52_method_15_code 8 = .ok (.ireturn, 1) := by decide +kernel
def QcfaL1 (Z : State) (G1 : Int32) (fm : Value) (b : Addr) (kb : ClassId) (vs : List Value) (h0 : Heap) (n0 : Nat) (v : Option Value) (h : Heap) (L : List Loc) : Prop := v = some (.int 0) ∧ Fr n0 L ∧ h = h0
theorem ef_jdk_52_method_15_code_RI (m : MethodId) (x0 : Addr) (x1 : Int32) : entryFrame m #[.ref x0, .int x1] 2 = mkF m 0 #[.val (.ref x0), .val (.int x1)] [] := by first | (simp [entryFrame, mkF, argsToLocals, Value.category]; done) | rfl
abbrev y11 : MethodName := ⟨"java/lang/StringUTF16", "coderFromArrayLen", "([BI)B"⟩
theorem rmcfaL1 (l : Launch) (Z : State) (a0 : Array Value) (G1 : Int32) (fm : Value) (hG : Glob Z a0 G1 fm) (ws : List Jvm.Cond) (b : Addr) (kb : ClassId) (vs : List Value) (h0 : Heap) (n0 : Nat) (Z0 : n0 ≤ h0.size) (X00 : Old Z n0 h0) (V_b : Arv Z h0 b kb .byte (1 : Int32) vs (.int 0)) :
    Met l Z h0 y11 jdk_52_method_15_code 2 (some .byte) ws (Room.mk 0 0 0 0) #[.ref b, .int 1] (QcfaL1 Z G1 fm b kb vs h0 n0) := by
  obtain ⟨hw, O_cs, P_cs, O_as, O_hi, O_lo, O_fm, R_fm⟩ := id hG
  have W := @own_W _ _ hw
  refine own_go "java/lang/StringUTF16" rfl (plainFor_of_name pn_java_lang_StringUTF16) ?_
  intro p e s m below meth c s₁ Bd hx hby hml hown hnm X0 e0 hZ
  have hB := @hb _ _ hby
  have N0 := Fr.nil n0
  obtain ⟨clq53, Arq53, qaq53, Sq53, Nq53, Hq53, Gq53⟩ := id V_b
  obtain ⟨fs, hr, hrun, hended, hW, hsame⟩ := X0.leave (v := some (.int 0)) (fun h => by rw [Bd.returns] at h; cases h)
  refine ⟨_, _, castTop (ef_jdk_52_method_15_code_RI m b (1 : Int32)) ?_, hrun, hended, _, _, rfl, ?_, ⟨_, rfl⟩, hW, hsame.mono (own_ble rfl) (own_ble rfl)⟩
  · show Steps _ _ _ (s₁.setTop (mkF m 0 #[.val (.ref b), .val (.int 1)] [])) _
    refine XS.iloadN X0.here hx rfl (hB d11_0) rfl ?_
    refine XS.aloadN X0.here hx rfl (hB d11_1) rfl rfl ?_
    refine X0.arraylength hx (own_cell e0 Arq53.1) (State.isArrayOf_alike hZ.alike Arq53.2.1) (g := (mkF m 2 #[.val (.ref b), .val (.int 1)] [.ref b, .int 1])) rfl rfl (hB d11_2) _ ?_
    rw [len_of Sq53 Nq53]
    refine XS.isub X0.here hx rfl (hB d11_3) rfl ?_
    refine XS.bipush X0.here hx rfl (hB d11_4) ?_
    refine XS.iushr X0.here hx rfl (hB d11_6) rfl ?_
    refine XS.i2b X0.here hx rfl (hB d11_7) rfl ?_
    exact retN X0 hx (t := .byte) Bd.returns (by simp) (hB d11_8) hr
  · show QcfaL1 Z G1 fm b kb vs h0 n0 _ s₁.heap _
    rw [e0]
    exact ⟨rfl, N0, rfl⟩
theorem d12_0 : decode jdk_42_method_149_code 0 = .ok (.aload_n 0, 1) := by decide +kernel
theorem d12_1 : decode jdk_42_method_149_code 1 = .ok (.invokespecial 1, 3) := by decide +kernel
theorem d12_4 : decode jdk_42_method_149_code 4 = .ok (.iload_n 3, 1) := by decide +kernel
theorem d12_5 : decode jdk_42_method_149_code 5 = .ok (.ifCond .ne 22, 3) := by decide +kernel
theorem d12_27 : decode jdk_42_method_149_code 27 = .ok (.getstatic 38, 3) := by decide +kernel
theorem d12_30 : decode jdk_42_method_149_code 30 = .ok (.ifCond .eq 28, 3) := by decide +kernel
theorem d12_33 : decode jdk_42_method_149_code 33 = .ok (.aload_n 1, 1) := by decide +kernel
theorem d12_34 : decode jdk_42_method_149_code 34 = .ok (.iload_n 2, 1) := by decide +kernel
theorem d12_35 : decode jdk_42_method_149_code 35 = .ok (.iload_n 3, 1) := by decide +kernel
theorem d12_36 : decode jdk_42_method_149_code 36 = .ok (.invokestatic 177, 3) := by decide +kernel
theorem d12_39 : decode jdk_42_method_149_code 39 = .ok (.astore 5, 2) := by decide +kernel
theorem d12_41 : decode jdk_42_method_149_code 41 = .ok (.aload_n 0, 1) := by decide +kernel
theorem d12_42 : decode jdk_42_method_149_code 42 = .ok (.aload 5, 2) := by decide +kernel
theorem d12_44 : decode jdk_42_method_149_code 44 = .ok (.iload_n 3, 1) := by decide +kernel
theorem d12_45 : decode jdk_42_method_149_code 45 = .ok (.invokestatic 47, 3) := by decide +kernel
theorem pd___BI_B : parseMethodDescriptor "([BI)B" = some ⟨[(.array .byte), .int], some .byte⟩ := by decide +kernel
theorem d12_48 : decode jdk_42_method_149_code 48 = .ok (.putfield 15, 3) := by decide +kernel
theorem d12_51 : decode jdk_42_method_149_code 51 = .ok (.aload_n 0, 1) := by decide +kernel
theorem d12_52 : decode jdk_42_method_149_code 52 = .ok (.aload 5, 2) := by decide +kernel
theorem d12_54 : decode jdk_42_method_149_code 54 = .ok (.putfield 9, 3) := by decide +kernel
theorem d12_57 : decode jdk_42_method_149_code 57 = .ok (.return_, 1) := by decide +kernel
def QviL1 (Z : State) (G1 : Int32) (fm : Value) (a1 : Addr) (b : Addr) (ka : ClassId) (c0 : Int32) (h0 : Heap) (n0 : Nat) (v : Option Value) (h : Heap) (L : List Loc) : Prop := ∃ t : Addr, ∃ kb : ClassId, v = none ∧ Fr n0 L ∧ Keep h0 h [a1] ∧ Exa Z h a1 "java/lang/String" ∧ Fld Z h a1 "java/lang/String" "coder" "B" (.int 0) ∧ Fld Z h a1 "java/lang/String" "value" "[B" (.ref t) ∧ Arv Z h t kb .byte (1 : Int32) [(.int ((c0.toInt8.toInt32).toInt8.toInt32))] (.int 0)
theorem ef_jdk_42_method_149_code_RRIIN (m : MethodId) (x0 : Addr) (x1 : Addr) (x2 : Int32) (x3 : Int32) : entryFrame m #[.ref x0, .ref x1, .int x2, .int x3, .null] 6 = mkF m 0 #[.val (.ref x0), .val (.ref x1), .val (.int x2), .val (.int x3), .val .null, .unset] [] := by first | (simp [entryFrame, mkF, argsToLocals, Value.category]; done) | rfl
abbrev y12 : MethodName := ⟨"java/lang/String", "<init>", "([CIILjava/lang/Void;)V"⟩
theorem rmviL1 (l : Launch) (Z : State) (a0 : Array Value) (G1 : Int32) (fm : Value) (hG : Glob Z a0 G1 fm) (ws : List Jvm.Cond) (a1 : Addr) (b : Addr) (ka : ClassId) (c0 : Int32) (h0 : Heap) (n0 : Nat) (Z0 : n0 ≤ h0.size) (X00 : Old Z n0 h0) (E_a1 : Exa Z h0 a1 "java/lang/String") (g_a1 : n0 ≤ a1) (F_value_a1 : Fld Z h0 a1 "java/lang/String" "value" "[B" .null) (F_coder_a1 : Fld Z h0 a1 "java/lang/String" "coder" "B" (.int 0)) (V_b : Arv Z h0 b ka .char (1 : Int32) [.int c0] (.int 0)) (ne_b_a1 : b ≠ a1) (hl0 : ¬ ((255 : Int32) < c0)) :
    Met l Z h0 y12 jdk_42_method_149_code 6 none ws (Room.mk 2 1 1 35) #[.ref a1, .ref b, .int 0, .int 1, .null] (QviL1 Z G1 fm a1 b ka c0 h0 n0) := by
  obtain ⟨hw, O_cs, P_cs, O_as, O_hi, O_lo, O_fm, R_fm⟩ := id hG
  have W := @own_W _ _ hw
  refine own_go "java/lang/String" rfl (plainFor_of_name pn_java_lang_String) ?_
  intro p e s m below meth c s₁ Bd hx hby hml hown hnm X0 e0 hZ
  have hB := @hb _ _ hby
  have N0 := Fr.nil n0
  obtain ⟨T54, X54, e54, st54⟩ := initO X0 hx hZ hown (W 19 rfl) (W 20 rfl) (W 21 rfl) e0 (g := (mkF m 1 #[.val (.ref a1), .val (.ref b), .val (.int 0), .val (.int 1), .val .null, .unset] [.ref a1])) rfl (by rw [hml]; rfl) rfl (hB d12_1) (by decide) (W := 0) (by show 2 * 0 + _ ≤ _; exact Nat.le_of_eq rfl) (by decide)
  obtain ⟨T55, X55, e55, st55⟩ := getS2 X54 hx hZ hown (host := "") (Or.inl (W 49 rfl)) Via.refl e54 (O_cs.ext X00.2) (g := (mkF m 27 #[.val (.ref a1), .val (.ref b), .val (.int 0), .val (.int 1), .val .null, .unset] [])) rfl (hB d12_27)
  -- pc 36: java/lang/StringUTF16.compress
  obtain ⟨_, _, ⟨T56, L56, k56, n56⟩, -, X56, ⟨Lc56, hQ56, l56, y56, z56⟩, st56⟩ := Jvm.LawKit.callS X55 hx (y := y10) hown (mvT hZ (W 74 rfl)) (mvT hZ (W 75 rfl)) (mvT hZ (W 76 rfl)) (mvT hZ (W 77 rfl)) (by decide) (backOf (W := 0) (rmc3L1 l Z a0 G1 fm hG [] b ka c0 h0 n0 Z0 X00 V_b (by first | assumption | decide | rfl)) hZ (W 77 rfl) (W 76 rfl) (by decide) (by decide)) (g := (mkF m 36 #[.val (.ref a1), .val (.ref b), .val (.int 0), .val (.int 1), .val .null, .unset] [.int 1, .int 0, .ref b])) rfl (by rw [hml]; rfl) (argsL := [.ref b, .int 0, .int 1]) (rest := []) (lenOf pd___CII__B rfl) rfl (by show 2 * 0 + _ ≤ _; exact Nat.le_of_eq rfl) (hB d12_36) (fun _ _ => ⟨rfl, e55, (by decide : 0 + 1 ≤ _), (by decide : 0 + 1 ≤ _)⟩)
  dsimp only [Pt.U, Pt.locs, Pt.cells, Pt.slots] at X56 l56 y56 z56 st56 hQ56
  subst l56 y56 z56
  obtain ⟨b_56, kb_56, rfl, N56q, K56, f56_0, f56_1⟩ := hQ56
  have N56 := Fr.app N0 N56q
  have Z57 : n0 ≤ T56.heap.size := Nat.le_trans Z0 K56.1
  have K0_57 : Keep h0 T56.heap [a1] := (Keep.refl h0 [a1]).trans K56 all0
  have O57 : Old Z n0 T56.heap := X00.keep K56 all0
  have lo_b_56 : h0.size ≤ b_56 := f56_0
  have g_b_56 : n0 ≤ b_56 := Nat.le_trans Z0 lo_b_56
  have l0_b_56 : h0.size ≤ b_56 := Nat.le_trans (Keep.refl h0 [a1]).1 lo_b_56
  -- pc 45: java/lang/StringUTF16.coderFromArrayLen
  obtain ⟨_, _, ⟨T58, L58, k58, n58⟩, -, X58, ⟨Lc58, hQ58, l58, y58, z58⟩, st58⟩ := Jvm.LawKit.callS X56 hx (y := y11) hown (mvT hZ (W 81 rfl)) (mvT hZ (W 82 rfl)) (mvT hZ (W 76 rfl)) (mvT hZ (W 83 rfl)) (by decide) (backOf (W := 1) (rmcfaL1 l Z a0 G1 fm hG [] b_56 kb_56 ([(.int ((c0.toInt8.toInt32).toInt8.toInt32))] : List Value) T56.heap n0 Z57 O57 f56_1) hZ (W 83 rfl) (W 76 rfl) (by decide) (by decide)) (g := (mkF m 45 #[.val (.ref a1), .val (.ref b), .val (.int 0), .val (.int 1), .val .null, .val (.ref b_56)] [.int 1, .ref b_56, .ref a1])) rfl (by rw [hml]; rfl) (argsL := [.ref b_56, .int 1]) (rest := [.ref a1]) (lenOf pd___BI_B rfl) rfl (by show 2 * 0 + _ ≤ _; exact Nat.le_of_eq rfl) (hB d12_45) (fun _ _ => ⟨rfl, rfl, (by decide : 1 + 0 ≤ _), (by decide : 1 + 0 ≤ _)⟩)
  dsimp only [Pt.U, Pt.locs, Pt.cells, Pt.slots] at X58 l58 y58 z58 st58 hQ58
  subst l58 y58 z58
  obtain ⟨rfl, N58q, eq58⟩ := hQ58
  have N58 := Fr.app N56 N58q
  have f59 := (E_a1.keep K56)
  have f60 := (F_coder_a1.keep K56 nin0)
  obtain ⟨T61, h61, X61, e61, W61, st61⟩ := putF X58 hx hZ hown (host := "") (Or.inl (W 29 rfl)) Via.refl eq58 f60 f59 (Or.inr ⟨(W 25 rfl), rfl, hnm⟩) (W 9 rfl) (ty := .byte) (by decide) rfl rfl (g := (mkF m 48 #[.val (.ref a1), .val (.ref b), .val (.int 0), .val (.int 1), .val .null, .val (.ref b_56)] [.int 0, .ref a1])) rfl rfl (hB d12_48)
  have Fw61 := f60.same W61
  have Z62 : n0 ≤ h61.size := Nat.le_trans Z57 (Keep.of_wr W61).1
  have K0_62 : Keep h0 h61 [a1] := K0_57.wr W61 (Or.inl (List.mem_of_getElem? (i := 0) rfl))
  have O62 : Old Z n0 h61 := O57.wr W61 g_a1
  have N61 := Fr.snoc X61 N58 g_a1
  have f63 := (f59.wr W61)
  have f64 := ((F_value_a1.keep K56 nin0).other W61 (Or.inr (slot_ne (Or.inr (W 24 rfl)) (Or.inr (W 25 rfl)) (by decide) (t := (.array .byte)) (t' := .byte) (by decide) (by decide))))
  obtain ⟨T65, h65, X65, e65, W65, st65⟩ := putF X61 hx hZ hown (host := "") (Or.inl (W 28 rfl)) Via.refl e61 f64 f63 (Or.inr ⟨(W 24 rfl), rfl, hnm⟩) (W 9 rfl) (ty := (.array .byte)) (by decide) rfl rfl (g := (mkF m 54 #[.val (.ref a1), .val (.ref b), .val (.int 0), .val (.int 1), .val .null, .val (.ref b_56)] [.ref b_56, .ref a1])) rfl rfl (hB d12_54)
  have Fw65 := f64.same W65
  have Z66 : n0 ≤ h65.size := Nat.le_trans Z62 (Keep.of_wr W65).1
  have K0_66 : Keep h0 h65 [a1] := K0_62.wr W65 (Or.inl (List.mem_of_getElem? (i := 0) rfl))
  have O66 : Old Z n0 h65 := O62.wr W65 g_a1
  have N65 := Fr.snoc X65 N61 g_a1
  have f67 := (f63.wr W65)
  have f68 := (Fw61.other W65 (Or.inr (slot_ne (Or.inr (W 25 rfl)) (Or.inr (W 24 rfl)) (by decide) (t := .byte) (t' := (.array .byte)) (by decide) (by decide))))
  have f69 := ((f56_1.other W61 (Ne.symm (Nat.ne_of_lt (Nat.lt_of_lt_of_le E_a1.lt lo_b_56)))).other W65 (Ne.symm (Nat.ne_of_lt (Nat.lt_of_lt_of_le E_a1.lt lo_b_56))))
  obtain ⟨fs, hr, hrun, hended, hW, hsame⟩ := X65.leave (v := none) (fun _ => rfl)
  refine ⟨_, _, castTop (ef_jdk_42_method_149_code_RRIIN m a1 b (0 : Int32) (1 : Int32)) ?_, hrun, hended, _, _, rfl, ?_, ⟨_, rfl⟩, hW, hsame.mono (own_ble rfl) (own_ble rfl)⟩
  · show Steps _ _ _ (s₁.setTop (mkF m 0 #[.val (.ref a1), .val (.ref b), .val (.int 0), .val (.int 1), .val .null, .unset] [])) _
    refine XS.aloadN X0.here hx rfl (hB d12_0) rfl rfl ?_
    refine st54 _ ?_
    show Steps _ _ _ (T54.setTop (mkF m 4 #[.val (.ref a1), .val (.ref b), .val (.int 0), .val (.int 1), .val .null, .unset] [])) _
    refine XS.iloadN X54.here hx rfl (hB d12_4) rfl ?_
    refine XS.ifYes X54.here hx rfl (pc0 := 5) (pc' := 27) rfl (hB d12_5) rfl ((if0 _ _).trans (feq (by decide : ¬ ((1 : Int32) = (0 : Int32)))).2) (by decide) (by decide) ?_
    refine st55 _ ?_
    show Steps _ _ _ (T55.setTop (mkF m 30 #[.val (.ref a1), .val (.ref b), .val (.int 0), .val (.int 1), .val .null, .unset] [.int G1])) _
    refine XS.ifNo X55.here hx rfl (hB d12_30) rfl ((if0 _ _).trans (feq (P_cs : ¬ (G1 = (0 : Int32)))).1) ?_
    refine XS.aloadN X55.here hx rfl (hB d12_33) rfl rfl ?_
    refine XS.iloadN X55.here hx rfl (hB d12_34) rfl ?_
    refine XS.iloadN X55.here hx rfl (hB d12_35) rfl ?_
    refine st56 _ ?_
    show Steps _ _ _ (T56.setTop (mkF m 39 #[.val (.ref a1), .val (.ref b), .val (.int 0), .val (.int 1), .val .null, .unset] [.ref b_56])) _
    refine XS.astore X56.here hx rfl (hB d12_39) rfl rfl (l' := #[.val (.ref a1), .val (.ref b), .val (.int 0), .val (.int 1), .val .null, .val (.ref b_56)]) rfl ?_
    refine XS.aloadN X56.here hx rfl (hB d12_41) rfl rfl ?_
    refine XS.aload X56.here hx rfl (hB d12_42) rfl rfl ?_
    refine XS.iloadN X56.here hx rfl (hB d12_44) rfl ?_
    refine st58 _ ?_
    show Steps _ _ _ (T58.setTop (mkF m 48 #[.val (.ref a1), .val (.ref b), .val (.int 0), .val (.int 1), .val .null, .val (.ref b_56)] [.int 0, .ref a1])) _
    refine st61 _ ?_
    show Steps _ _ _ (T61.setTop (mkF m 51 #[.val (.ref a1), .val (.ref b), .val (.int 0), .val (.int 1), .val .null, .val (.ref b_56)] [])) _
    refine XS.aloadN X61.here hx rfl (hB d12_51) rfl rfl ?_
    refine XS.aload X61.here hx rfl (hB d12_52) rfl rfl ?_
    refine st65 _ ?_
    show Steps _ _ _ (T65.setTop (mkF m 57 #[.val (.ref a1), .val (.ref b), .val (.int 0), .val (.int 1), .val .null, .val (.ref b_56)] [])) _
    exact X65.returnOut hx Bd.returns (hB d12_57) hr
  · show QviL1 Z G1 fm a1 b ka c0 h0 n0 _ T65.heap _
    rw [e65]
    exact ⟨b_56, kb_56, rfl, N65, K0_66, f67, f68, Fw65, f69⟩
theorem d13_0 : decode jdk_42_method_3_code 0 = .ok (.aload_n 0, 1) := by decide +kernel
theorem d13_1 : decode jdk_42_method_3_code 1 = .ok (.aload_n 1, 1) := by decide +kernel
theorem d13_2 : decode jdk_42_method_3_code 2 = .ok (.iconst 0, 1) := by decide +kernel
theorem d13_3 : decode jdk_42_method_3_code 3 = .ok (.aload_n 1, 1) := by decide +kernel
theorem d13_4 : decode jdk_42_method_3_code 4 = .ok (.arraylength, 1) := by decide +kernel
theorem d13_5 : decode jdk_42_method_3_code 5 = .ok (.aconst_null, 1) := by decide +kernel
theorem d13_6 : decode jdk_42_method_3_code 6 = .ok (.invokespecial 27, 3) := by decide +kernel
theorem pd___CIILjava_lang_Void__V : parseMethodDescriptor "([CIILjava/lang/Void;)V" = some ⟨[(.array .char), .int, .int, (.object "java/lang/Void")], none⟩ := by decide +kernel
theorem d13_9 : decode jdk_42_method_3_code 9 = .ok (.return_, 1) := by decide +kernel
def QcfaW1 (Z : State) (G1 : Int32) (fm : Value) (b : Addr) (kb : ClassId) (vs : List Value) (h0 : Heap) (n0 : Nat) (v : Option Value) (h : Heap) (L : List Loc) : Prop := v = some (.int 1) ∧ Fr n0 L ∧ h = h0
theorem rmcfaW1 (l : Launch) (Z : State) (a0 : Array Value) (G1 : Int32) (fm : Value) (hG : Glob Z a0 G1 fm) (ws : List Jvm.Cond) (b : Addr) (kb : ClassId) (vs : List Value) (h0 : Heap) (n0 : Nat) (Z0 : n0 ≤ h0.size) (X00 : Old Z n0 h0) (V_b : Arv Z h0 b kb .byte (2 : Int32) vs (.int 0)) :
    Met l Z h0 y11 jdk_52_method_15_code 2 (some .byte) ws (Room.mk 0 0 0 0) #[.ref b, .int 1] (QcfaW1 Z G1 fm b kb vs h0 n0) := by
  obtain ⟨hw, O_cs, P_cs, O_as, O_hi, O_lo, O_fm, R_fm⟩ := id hG
  have W := @own_W _ _ hw
  refine own_go "java/lang/StringUTF16" rfl (plainFor_of_name pn_java_lang_StringUTF16) ?_
  intro p e s m below meth c s₁ Bd hx hby hml hown hnm X0 e0 hZ
  have hB := @hb _ _ hby
  have N0 := Fr.nil n0
  obtain ⟨clq73, Arq73, qaq73, Sq73, Nq73, Hq73, Gq73⟩ := id V_b
  obtain ⟨fs, hr, hrun, hended, hW, hsame⟩ := X0.leave (v := some (.int 1)) (fun h => by rw [Bd.returns] at h; cases h)
  refine ⟨_, _, castTop (ef_jdk_52_method_15_code_RI m b (1 : Int32)) ?_, hrun, hended, _, _, rfl, ?_, ⟨_, rfl⟩, hW, hsame.mono (own_ble rfl) (own_ble rfl)⟩
  · show Steps _ _ _ (s₁.setTop (mkF m 0 #[.val (.ref b), .val (.int 1)] [])) _
    refine XS.iloadN X0.here hx rfl (hB d11_0) rfl ?_
    refine XS.aloadN X0.here hx rfl (hB d11_1) rfl rfl ?_
    refine X0.arraylength hx (own_cell e0 Arq73.1) (State.isArrayOf_alike hZ.alike Arq73.2.1) (g := (mkF m 2 #[.val (.ref b), .val (.int 1)] [.ref b, .int 1])) rfl rfl (hB d11_2) _ ?_
    rw [len_of Sq73 Nq73]
    refine XS.isub X0.here hx rfl (hB d11_3) rfl ?_
    refine XS.bipush X0.here hx rfl (hB d11_4) ?_
    refine XS.iushr X0.here hx rfl (hB d11_6) rfl ?_
    refine XS.i2b X0.here hx rfl (hB d11_7) rfl ?_
    exact retN X0 hx (t := .byte) Bd.returns (by simp) (hB d11_8) hr
  · show QcfaW1 Z G1 fm b kb vs h0 n0 _ s₁.heap _
    rw [e0]
    exact ⟨rfl, N0, rfl⟩
def QviW1 (Z : State) (G1 : Int32) (fm : Value) (a1 : Addr) (b : Addr) (ka : ClassId) (c0 : Int32) (h0 : Heap) (n0 : Nat) (v : Option Value) (h : Heap) (L : List Loc) : Prop := ∃ t : Addr, ∃ kb : ClassId, v = none ∧ Fr n0 L ∧ Keep h0 h [a1] ∧ Exa Z h a1 "java/lang/String" ∧ Fld Z h a1 "java/lang/String" "coder" "B" (.int 1) ∧ Fld Z h a1 "java/lang/String" "value" "[B" (.ref t) ∧ Arv Z h t kb .byte (2 : Int32) [(.int (((c0 >>> ((0 : Int32) &&& 31)).toInt8.toInt32).toInt8.toInt32)), (.int (((c0 >>> ((8 : Int32) &&& 31)).toInt8.toInt32).toInt8.toInt32))] (.int 0)
theorem rmviW1 (l : Launch) (Z : State) (a0 : Array Value) (G1 : Int32) (fm : Value) (hG : Glob Z a0 G1 fm) (ws : List Jvm.Cond) (a1 : Addr) (b : Addr) (ka : ClassId) (c0 : Int32) (h0 : Heap) (n0 : Nat) (Z0 : n0 ≤ h0.size) (X00 : Old Z n0 h0) (E_a1 : Exa Z h0 a1 "java/lang/String") (g_a1 : n0 ≤ a1) (F_value_a1 : Fld Z h0 a1 "java/lang/String" "value" "[B" .null) (F_coder_a1 : Fld Z h0 a1 "java/lang/String" "coder" "B" (.int 0)) (V_b : Arv Z h0 b ka .char (1 : Int32) [.int c0] (.int 0)) (ne_b_a1 : b ≠ a1) (hwid : ¬ (¬ ((255 : Int32) < c0))) (hu : ∀ c ∈ ([c0] : List Int32), own_u16 c) :
    Met l Z h0 y12 jdk_42_method_149_code 6 none ws (Room.mk 4 2 3 57) #[.ref a1, .ref b, .int 0, .int 1, .null] (QviW1 Z G1 fm a1 b ka c0 h0 n0) := by
  obtain ⟨hw, O_cs, P_cs, O_as, O_hi, O_lo, O_fm, R_fm⟩ := id hG
  have W := @own_W _ _ hw
  refine own_go "java/lang/String" rfl (plainFor_of_name pn_java_lang_String) ?_
  intro p e s m below meth c s₁ Bd hx hby hml hown hnm X0 e0 hZ
  have hB := @hb _ _ hby
  have N0 := Fr.nil n0
  obtain ⟨T74, X74, e74, st74⟩ := initO X0 hx hZ hown (W 19 rfl) (W 20 rfl) (W 21 rfl) e0 (g := (mkF m 1 #[.val (.ref a1), .val (.ref b), .val (.int 0), .val (.int 1), .val .null, .unset] [.ref a1])) rfl (by rw [hml]; rfl) rfl (hB d12_1) (by decide) (W := 0) (by show 2 * 0 + _ ≤ _; exact Nat.le_of_eq rfl) (by decide)
  obtain ⟨T75, X75, e75, st75⟩ := getS2 X74 hx hZ hown (host := "") (Or.inl (W 49 rfl)) Via.refl e74 (O_cs.ext X00.2) (g := (mkF m 27 #[.val (.ref a1), .val (.ref b), .val (.int 0), .val (.int 1), .val .null, .unset] [])) rfl (hB d12_27)
  -- pc 36: java/lang/StringUTF16.compress
  obtain ⟨_, _, ⟨T76, L76, k76, n76⟩, -, X76, ⟨Lc76, hQ76, l76, y76, z76⟩, st76⟩ := Jvm.LawKit.callS X75 hx (y := y10) hown (mvT hZ (W 74 rfl)) (mvT hZ (W 75 rfl)) (mvT hZ (W 76 rfl)) (mvT hZ (W 77 rfl)) (by decide) (backOf (W := 0) (rmc3W1 l Z a0 G1 fm hG [] b ka c0 h0 n0 Z0 X00 V_b (by first | assumption | decide | rfl) (by first | assumption | decide | rfl)) hZ (W 77 rfl) (W 76 rfl) (by decide) (by decide)) (g := (mkF m 36 #[.val (.ref a1), .val (.ref b), .val (.int 0), .val (.int 1), .val .null, .unset] [.int 1, .int 0, .ref b])) rfl (by rw [hml]; rfl) (argsL := [.ref b, .int 0, .int 1]) (rest := []) (lenOf pd___CII__B rfl) rfl (by show 2 * 0 + _ ≤ _; exact Nat.le_of_eq rfl) (hB d12_36) (fun _ _ => ⟨rfl, e75, (by decide : 0 + 2 ≤ _), (by decide : 0 + 3 ≤ _)⟩)
  dsimp only [Pt.U, Pt.locs, Pt.cells, Pt.slots] at X76 l76 y76 z76 st76 hQ76
  subst l76 y76 z76
  obtain ⟨b_76, kb_76, rfl, N76q, K76, f76_0, f76_1⟩ := hQ76
  have N76 := Fr.app N0 N76q
  have Z77 : n0 ≤ T76.heap.size := Nat.le_trans Z0 K76.1
  have K0_77 : Keep h0 T76.heap [a1] := (Keep.refl h0 [a1]).trans K76 all0
  have O77 : Old Z n0 T76.heap := X00.keep K76 all0
  have lo_b_76 : h0.size ≤ b_76 := f76_0
  have g_b_76 : n0 ≤ b_76 := Nat.le_trans Z0 lo_b_76
  have l0_b_76 : h0.size ≤ b_76 := Nat.le_trans (Keep.refl h0 [a1]).1 lo_b_76
  -- pc 45: java/lang/StringUTF16.coderFromArrayLen
  obtain ⟨_, _, ⟨T78, L78, k78, n78⟩, -, X78, ⟨Lc78, hQ78, l78, y78, z78⟩, st78⟩ := Jvm.LawKit.callS X76 hx (y := y11) hown (mvT hZ (W 81 rfl)) (mvT hZ (W 82 rfl)) (mvT hZ (W 76 rfl)) (mvT hZ (W 83 rfl)) (by decide) (backOf (W := 1) (rmcfaW1 l Z a0 G1 fm hG [] b_76 kb_76 ([(.int (((c0 >>> ((0 : Int32) &&& 31)).toInt8.toInt32).toInt8.toInt32)), (.int (((c0 >>> ((8 : Int32) &&& 31)).toInt8.toInt32).toInt8.toInt32))] : List Value) T76.heap n0 Z77 O77 f76_1) hZ (W 83 rfl) (W 76 rfl) (by decide) (by decide)) (g := (mkF m 45 #[.val (.ref a1), .val (.ref b), .val (.int 0), .val (.int 1), .val .null, .val (.ref b_76)] [.int 1, .ref b_76, .ref a1])) rfl (by rw [hml]; rfl) (argsL := [.ref b_76, .int 1]) (rest := [.ref a1]) (lenOf pd___BI_B rfl) rfl (by show 2 * 0 + _ ≤ _; exact Nat.le_of_eq rfl) (hB d12_45) (fun _ _ => ⟨rfl, rfl, (by decide : 2 + 0 ≤ _), (by decide : 3 + 0 ≤ _)⟩)
  dsimp only [Pt.U, Pt.locs, Pt.cells, Pt.slots] at X78 l78 y78 z78 st78 hQ78
  subst l78 y78 z78
  obtain ⟨rfl, N78q, eq78⟩ := hQ78
  have N78 := Fr.app N76 N78q
  have f79 := (E_a1.keep K76)
  have f80 := (F_coder_a1.keep K76 nin0)
  obtain ⟨T81, h81, X81, e81, W81, st81⟩ := putF X78 hx hZ hown (host := "") (Or.inl (W 29 rfl)) Via.refl eq78 f80 f79 (Or.inr ⟨(W 25 rfl), rfl, hnm⟩) (W 9 rfl) (ty := .byte) (by decide) rfl rfl (g := (mkF m 48 #[.val (.ref a1), .val (.ref b), .val (.int 0), .val (.int 1), .val .null, .val (.ref b_76)] [.int 1, .ref a1])) rfl rfl (hB d12_48)
  have Fw81 := f80.same W81
  have Z82 : n0 ≤ h81.size := Nat.le_trans Z77 (Keep.of_wr W81).1
  have K0_82 : Keep h0 h81 [a1] := K0_77.wr W81 (Or.inl (List.mem_of_getElem? (i := 0) rfl))
  have O82 : Old Z n0 h81 := O77.wr W81 g_a1
  have N81 := Fr.snoc X81 N78 g_a1
  have f83 := (f79.wr W81)
  have f84 := ((F_value_a1.keep K76 nin0).other W81 (Or.inr (slot_ne (Or.inr (W 24 rfl)) (Or.inr (W 25 rfl)) (by decide) (t := (.array .byte)) (t' := .byte) (by decide) (by decide))))
  obtain ⟨T85, h85, X85, e85, W85, st85⟩ := putF X81 hx hZ hown (host := "") (Or.inl (W 28 rfl)) Via.refl e81 f84 f83 (Or.inr ⟨(W 24 rfl), rfl, hnm⟩) (W 9 rfl) (ty := (.array .byte)) (by decide) rfl rfl (g := (mkF m 54 #[.val (.ref a1), .val (.ref b), .val (.int 0), .val (.int 1), .val .null, .val (.ref b_76)] [.ref b_76, .ref a1])) rfl rfl (hB d12_54)
  have Fw85 := f84.same W85
  have Z86 : n0 ≤ h85.size := Nat.le_trans Z82 (Keep.of_wr W85).1
  have K0_86 : Keep h0 h85 [a1] := K0_82.wr W85 (Or.inl (List.mem_of_getElem? (i := 0) rfl))
  have O86 : Old Z n0 h85 := O82.wr W85 g_a1
  have N85 := Fr.snoc X85 N81 g_a1
  have f87 := (f83.wr W85)
  have f88 := (Fw81.other W85 (Or.inr (slot_ne (Or.inr (W 25 rfl)) (Or.inr (W 24 rfl)) (by decide) (t := .byte) (t' := (.array .byte)) (by decide) (by decide))))
  have f89 := ((f76_1.other W81 (Ne.symm (Nat.ne_of_lt (Nat.lt_of_lt_of_le E_a1.lt lo_b_76)))).other W85 (Ne.symm (Nat.ne_of_lt (Nat.lt_of_lt_of_le E_a1.lt lo_b_76))))
  obtain ⟨fs, hr, hrun, hended, hW, hsame⟩ := X85.leave (v := none) (fun _ => rfl)
  refine ⟨_, _, castTop (ef_jdk_42_method_149_code_RRIIN m a1 b (0 : Int32) (1 : Int32)) ?_, hrun, hended, _, _, rfl, ?_, ⟨_, rfl⟩, hW, hsame.mono (own_ble rfl) (own_ble rfl)⟩
  · show Steps _ _ _ (s₁.setTop (mkF m 0 #[.val (.ref a1), .val (.ref b), .val (.int 0), .val (.int 1), .val .null, .unset] [])) _
    refine XS.aloadN X0.here hx rfl (hB d12_0) rfl rfl ?_
    refine st74 _ ?_
    show Steps _ _ _ (T74.setTop (mkF m 4 #[.val (.ref a1), .val (.ref b), .val (.int 0), .val (.int 1), .val .null, .unset] [])) _
    refine XS.iloadN X74.here hx rfl (hB d12_4) rfl ?_
    refine XS.ifYes X74.here hx rfl (pc0 := 5) (pc' := 27) rfl (hB d12_5) rfl ((if0 _ _).trans (feq (by decide : ¬ ((1 : Int32) = (0 : Int32)))).2) (by decide) (by decide) ?_
    refine st75 _ ?_
    show Steps _ _ _ (T75.setTop (mkF m 30 #[.val (.ref a1), .val (.ref b), .val (.int 0), .val (.int 1), .val .null, .unset] [.int G1])) _
    refine XS.ifNo X75.here hx rfl (hB d12_30) rfl ((if0 _ _).trans (feq (P_cs : ¬ (G1 = (0 : Int32)))).1) ?_
    refine XS.aloadN X75.here hx rfl (hB d12_33) rfl rfl ?_
    refine XS.iloadN X75.here hx rfl (hB d12_34) rfl ?_
    refine XS.iloadN X75.here hx rfl (hB d12_35) rfl ?_
    refine st76 _ ?_
    show Steps _ _ _ (T76.setTop (mkF m 39 #[.val (.ref a1), .val (.ref b), .val (.int 0), .val (.int 1), .val .null, .unset] [.ref b_76])) _
    refine XS.astore X76.here hx rfl (hB d12_39) rfl rfl (l' := #[.val (.ref a1), .val (.ref b), .val (.int 0), .val (.int 1), .val .null, .val (.ref b_76)]) rfl ?_
    refine XS.aloadN X76.here hx rfl (hB d12_41) rfl rfl ?_
    refine XS.aload X76.here hx rfl (hB d12_42) rfl rfl ?_
    refine XS.iloadN X76.here hx rfl (hB d12_44) rfl ?_
    refine st78 _ ?_
    show Steps _ _ _ (T78.setTop (mkF m 48 #[.val (.ref a1), .val (.ref b), .val (.int 0), .val (.int 1), .val .null, .val (.ref b_76)] [.int 1, .ref a1])) _
    refine st81 _ ?_
    show Steps _ _ _ (T81.setTop (mkF m 51 #[.val (.ref a1), .val (.ref b), .val (.int 0), .val (.int 1), .val .null, .val (.ref b_76)] [])) _
    refine XS.aloadN X81.here hx rfl (hB d12_51) rfl rfl ?_
    refine XS.aload X81.here hx rfl (hB d12_52) rfl rfl ?_
    refine st85 _ ?_
    show Steps _ _ _ (T85.setTop (mkF m 57 #[.val (.ref a1), .val (.ref b), .val (.int 0), .val (.int 1), .val .null, .val (.ref b_76)] [])) _
    exact X85.returnOut hx Bd.returns (hB d12_57) hr
  · show QviW1 Z G1 fm a1 b ka c0 h0 n0 _ T85.heap _
    rw [e85]
    exact ⟨b_76, kb_76, rfl, N85, K0_86, f87, f88, Fw85, f89⟩
theorem own_all1 {P : Int32 → Prop} {c0 : Int32} (h0 : P c0) : ∀ c ∈ ([c0] : List Int32), P c := by
  intro c hc
  simp only [List.mem_cons, List.not_mem_nil, or_false] at hc
  rcases hc with rfl <;> assumption
def Qini1 (Z : State) (G1 : Int32) (fm : Value) (a1 : Addr) (b : Addr) (ka : ClassId) (c0 : Int32) (h0 : Heap) (n0 : Nat) (v : Option Value) (h : Heap) (L : List Loc) : Prop := ∃ t : Addr, ∃ kb : ClassId, ∃ cd : Int32, ∃ z : Int32, ∃ vs : List Value, v = none ∧ Fr n0 L ∧ Keep h0 h [a1] ∧ Exa Z h a1 "java/lang/String" ∧ Fld Z h a1 "java/lang/String" "coder" "B" (.int cd) ∧ Fld Z h a1 "java/lang/String" "value" "[B" (.ref t) ∧ Arv Z h t kb .byte z vs (.int 0) ∧ own_str cd z vs [c0]
theorem ef_jdk_42_method_3_code_RR (m : MethodId) (x0 : Addr) (x1 : Addr) : entryFrame m #[.ref x0, .ref x1] 2 = mkF m 0 #[.val (.ref x0), .val (.ref x1)] [] := by first | (simp [entryFrame, mkF, argsToLocals, Value.category]; done) | rfl
abbrev y13 : MethodName := ⟨"java/lang/String", "<init>", "([C)V"⟩
theorem rmini1_L (l : Launch) (Z : State) (a0 : Array Value) (G1 : Int32) (fm : Value) (hG : Glob Z a0 G1 fm) (ws : List Jvm.Cond) (a1 : Addr) (b : Addr) (ka : ClassId) (c0 : Int32) (h0 : Heap) (n0 : Nat) (Z0 : n0 ≤ h0.size) (X00 : Old Z n0 h0) (E_a1 : Exa Z h0 a1 "java/lang/String") (g_a1 : n0 ≤ a1) (F_value_a1 : Fld Z h0 a1 "java/lang/String" "value" "[B" .null) (F_coder_a1 : Fld Z h0 a1 "java/lang/String" "coder" "B" (.int 0)) (V_b : Arv Z h0 b ka .char (1 : Int32) [.int c0] (.int 0)) (ne_b_a1 : b ≠ a1) (hl0 : ¬ ((255 : Int32) < c0)) :
    Met l Z h0 y13 jdk_42_method_3_code 2 none ws (Room.mk 5 2 3 74) #[.ref a1, .ref b] (Qini1 Z G1 fm a1 b ka c0 h0 n0) := by
  obtain ⟨hw, O_cs, P_cs, O_as, O_hi, O_lo, O_fm, R_fm⟩ := id hG
  have W := @own_W _ _ hw
  refine own_go "java/lang/String" rfl (plainFor_of_name pn_java_lang_String) ?_
  intro p e s m below meth c s₁ Bd hx hby hml hown hnm X0 e0 hZ
  have hB := @hb _ _ hby
  have N0 := Fr.nil n0
  obtain ⟨clq70, Arq70, qaq70, Sq70, Nq70, Hq70, Gq70⟩ := id V_b
  -- pc 6: java/lang/String.<init>
  obtain ⟨_, _, ⟨T71, L71, k71, n71⟩, -, X71, ⟨Lc71, hQ71, l71, y71, z71⟩, st71⟩ := X0.specialBack hx (y := y12) rfl hown (mvT hZ (W 15 rfl)) (mvT hZ (W 16 rfl)) (mvT hZ (W 18 rfl)) (by decide) (backOf (W := 0) (rmviL1 l Z a0 G1 fm hG [] a1 b ka c0 h0 n0 Z0 X00 E_a1 g_a1 F_value_a1 F_coder_a1 V_b ne_b_a1 (by first | assumption | decide | rfl)) hZ (W 18 rfl) (W 10 rfl) (by decide) (by decide)) (g := (mkF m 6 #[.val (.ref a1), .val (.ref b)] [.null, .int 1, .int 0, .ref b, .ref a1])) rfl (by rw [hml]; rfl) (Steps.refl _) (a := a1) (argsL := [.ref b, .int 0, .int 1, .null]) (rest := []) (lenOf pd___CIILjava_lang_Void__V rfl) rfl (by show 2 * 0 + _ ≤ _; exact Nat.le_of_eq rfl) (hB d13_6) (fun _ _ => ⟨rfl, e0, (by decide : 0 + 1 ≤ _), (by decide : 0 + 1 ≤ _)⟩)
  dsimp only [Pt.U, Pt.locs, Pt.cells, Pt.slots] at X71 l71 y71 z71 st71 hQ71
  subst l71 y71 z71
  obtain ⟨t_71, kb_71, rfl, N71q, K71, f71_0, f71_1, f71_2, f71_3⟩ := hQ71
  have N71 := Fr.app N0 N71q
  have Z72 : n0 ≤ T71.heap.size := Nat.le_trans Z0 K71.1
  have K0_72 : Keep h0 T71.heap [a1] := (Keep.refl h0 [a1]).trans K71 (allS (Or.inl (List.mem_of_getElem? (i := 0) rfl)) all0)
  have O72 : Old Z n0 T71.heap := X00.keep K71 (allS g_a1 all0)
  obtain ⟨fs, hr, hrun, hended, hW, hsame⟩ := X71.leave (v := none) (fun _ => rfl)
  refine ⟨_, _, castTop (ef_jdk_42_method_3_code_RR m a1 b) ?_, hrun, hended, _, _, rfl, ?_, ⟨_, rfl⟩, hW, hsame.mono (own_ble rfl) (own_ble rfl)⟩
  · show Steps _ _ _ (s₁.setTop (mkF m 0 #[.val (.ref a1), .val (.ref b)] [])) _
    refine XS.aloadN X0.here hx rfl (hB d13_0) rfl rfl ?_
    refine XS.aloadN X0.here hx rfl (hB d13_1) rfl rfl ?_
    refine XS.iconst X0.here hx rfl (hB d13_2) ?_
    refine XS.aloadN X0.here hx rfl (hB d13_3) rfl rfl ?_
    refine X0.arraylength hx (own_cell e0 Arq70.1) (State.isArrayOf_alike hZ.alike Arq70.2.1) (g := (mkF m 4 #[.val (.ref a1), .val (.ref b)] [.ref b, .int 0, .ref b, .ref a1])) rfl rfl (hB d13_4) _ ?_
    rw [len_of Sq70 Nq70]
    refine XS.aconstNull X0.here hx rfl (hB d13_5) ?_
    refine st71.trans ?_
    show Steps _ _ _ (T71.setTop (mkF m 9 #[.val (.ref a1), .val (.ref b)] [])) _
    exact X71.returnOut hx Bd.returns (hB d13_9) hr
  · show Qini1 Z G1 fm a1 b ka c0 h0 n0 _ T71.heap _
    exact ⟨t_71, kb_71, (0 : Int32), (1 : Int32), _, rfl, N71, K0_72, f71_0, f71_1, f71_2, f71_3, Or.inl ⟨rfl, rfl, rfl, own_all1 hl0⟩⟩
theorem rmini1_W (l : Launch) (Z : State) (a0 : Array Value) (G1 : Int32) (fm : Value) (hG : Glob Z a0 G1 fm) (ws : List Jvm.Cond) (a1 : Addr) (b : Addr) (ka : ClassId) (c0 : Int32) (h0 : Heap) (n0 : Nat) (Z0 : n0 ≤ h0.size) (X00 : Old Z n0 h0) (E_a1 : Exa Z h0 a1 "java/lang/String") (g_a1 : n0 ≤ a1) (F_value_a1 : Fld Z h0 a1 "java/lang/String" "value" "[B" .null) (F_coder_a1 : Fld Z h0 a1 "java/lang/String" "coder" "B" (.int 0)) (V_b : Arv Z h0 b ka .char (1 : Int32) [.int c0] (.int 0)) (ne_b_a1 : b ≠ a1) (hwid : ¬ (¬ ((255 : Int32) < c0))) (hu : ∀ c ∈ ([c0] : List Int32), own_u16 c) :
    Met l Z h0 y13 jdk_42_method_3_code 2 none ws (Room.mk 5 2 3 74) #[.ref a1, .ref b] (Qini1 Z G1 fm a1 b ka c0 h0 n0) := by
  obtain ⟨hw, O_cs, P_cs, O_as, O_hi, O_lo, O_fm, R_fm⟩ := id hG
  have W := @own_W _ _ hw
  refine own_go "java/lang/String" rfl (plainFor_of_name pn_java_lang_String) ?_
  intro p e s m below meth c s₁ Bd hx hby hml hown hnm X0 e0 hZ
  have hB := @hb _ _ hby
  have N0 := Fr.nil n0
  obtain ⟨clq90, Arq90, qaq90, Sq90, Nq90, Hq90, Gq90⟩ := id V_b
  -- pc 6: java/lang/String.<init>
  obtain ⟨_, _, ⟨T91, L91, k91, n91⟩, -, X91, ⟨Lc91, hQ91, l91, y91, z91⟩, st91⟩ := X0.specialBack hx (y := y12) rfl hown (mvT hZ (W 15 rfl)) (mvT hZ (W 16 rfl)) (mvT hZ (W 18 rfl)) (by decide) (backOf (W := 0) (rmviW1 l Z a0 G1 fm hG [] a1 b ka c0 h0 n0 Z0 X00 E_a1 g_a1 F_value_a1 F_coder_a1 V_b ne_b_a1 (by first | assumption | decide | rfl) (by first | assumption | decide | rfl)) hZ (W 18 rfl) (W 10 rfl) (by decide) (by decide)) (g := (mkF m 6 #[.val (.ref a1), .val (.ref b)] [.null, .int 1, .int 0, .ref b, .ref a1])) rfl (by rw [hml]; rfl) (Steps.refl _) (a := a1) (argsL := [.ref b, .int 0, .int 1, .null]) (rest := []) (lenOf pd___CIILjava_lang_Void__V rfl) rfl (by show 2 * 0 + _ ≤ _; exact Nat.le_of_eq rfl) (hB d13_6) (fun _ _ => ⟨rfl, e0, (by decide : 0 + 2 ≤ _), (by decide : 0 + 3 ≤ _)⟩)
  dsimp only [Pt.U, Pt.locs, Pt.cells, Pt.slots] at X91 l91 y91 z91 st91 hQ91
  subst l91 y91 z91
  obtain ⟨t_91, kb_91, rfl, N91q, K91, f91_0, f91_1, f91_2, f91_3⟩ := hQ91
  have N91 := Fr.app N0 N91q
  have Z92 : n0 ≤ T91.heap.size := Nat.le_trans Z0 K91.1
  have K0_92 : Keep h0 T91.heap [a1] := (Keep.refl h0 [a1]).trans K91 (allS (Or.inl (List.mem_of_getElem? (i := 0) rfl)) all0)
  have O92 : Old Z n0 T91.heap := X00.keep K91 (allS g_a1 all0)
  obtain ⟨fs, hr, hrun, hended, hW, hsame⟩ := X91.leave (v := none) (fun _ => rfl)
  refine ⟨_, _, castTop (ef_jdk_42_method_3_code_RR m a1 b) ?_, hrun, hended, _, _, rfl, ?_, ⟨_, rfl⟩, hW, hsame.mono (own_ble rfl) (own_ble rfl)⟩
  · show Steps _ _ _ (s₁.setTop (mkF m 0 #[.val (.ref a1), .val (.ref b)] [])) _
    refine XS.aloadN X0.here hx rfl (hB d13_0) rfl rfl ?_
    refine XS.aloadN X0.here hx rfl (hB d13_1) rfl rfl ?_
    refine XS.iconst X0.here hx rfl (hB d13_2) ?_
    refine XS.aloadN X0.here hx rfl (hB d13_3) rfl rfl ?_
    refine X0.arraylength hx (own_cell e0 Arq90.1) (State.isArrayOf_alike hZ.alike Arq90.2.1) (g := (mkF m 4 #[.val (.ref a1), .val (.ref b)] [.ref b, .int 0, .ref b, .ref a1])) rfl rfl (hB d13_4) _ ?_
    rw [len_of Sq90 Nq90]
    refine XS.aconstNull X0.here hx rfl (hB d13_5) ?_
    refine st91.trans ?_
    show Steps _ _ _ (T91.setTop (mkF m 9 #[.val (.ref a1), .val (.ref b)] [])) _
    exact X91.returnOut hx Bd.returns (hB d13_9) hr
  · show Qini1 Z G1 fm a1 b ka c0 h0 n0 _ T91.heap _
    exact ⟨t_91, kb_91, (1 : Int32), (2 : Int32), _, rfl, N91, K0_92, f91_0, f91_1, f91_2, f91_3, Or.inr ⟨rfl, rfl, rfl⟩⟩
theorem rmini1 (l : Launch) (Z : State) (a0 : Array Value) (G1 : Int32) (fm : Value) (hG : Glob Z a0 G1 fm) (ws : List Jvm.Cond) (a1 : Addr) (b : Addr) (ka : ClassId) (c0 : Int32) (h0 : Heap) (n0 : Nat) (Z0 : n0 ≤ h0.size) (X00 : Old Z n0 h0) (E_a1 : Exa Z h0 a1 "java/lang/String") (g_a1 : n0 ≤ a1) (F_value_a1 : Fld Z h0 a1 "java/lang/String" "value" "[B" .null) (F_coder_a1 : Fld Z h0 a1 "java/lang/String" "coder" "B" (.int 0)) (V_b : Arv Z h0 b ka .char (1 : Int32) [.int c0] (.int 0)) (ne_b_a1 : b ≠ a1) (hu : ∀ c ∈ ([c0] : List Int32), own_u16 c) :
    Met l Z h0 y13 jdk_42_method_3_code 2 none ws (Room.mk 5 2 3 74) #[.ref a1, .ref b] (Qini1 Z G1 fm a1 b ka c0 h0 n0) := by
  by_cases hwid : (¬ ((255 : Int32) < c0))
  · have hl0 := hwid
    exact rmini1_L l Z a0 G1 fm hG ws a1 b ka c0 h0 n0 Z0 X00 E_a1 g_a1 F_value_a1 F_coder_a1 V_b ne_b_a1 hl0
  · exact rmini1_W l Z a0 G1 fm hG ws a1 b ka c0 h0 n0 Z0 X00 E_a1 g_a1 F_value_a1 F_coder_a1 V_b ne_b_a1 hwid hu
def Qc5L2 (Z : State) (G1 : Int32) (fm : Value) (a1 : Addr) (a2 : Addr) (ka : ClassId) (kb : ClassId) (c0 : Int32) (c1 : Int32) (h0 : Heap) (n0 : Nat) (v : Option Value) (h : Heap) (L : List Loc) : Prop := v = some (.int 2) ∧ Fr n0 L ∧ Keep h0 h [a2] ∧ Arv Z h a2 kb .byte (2 : Int32) [(.int ((c0.toInt8.toInt32).toInt8.toInt32)), (.int ((c1.toInt8.toInt32).toInt8.toInt32))] (.int 0)
theorem rmc5L2 (l : Launch) (Z : State) (a0 : Array Value) (G1 : Int32) (fm : Value) (hG : Glob Z a0 G1 fm) (ws : List Jvm.Cond) (a1 : Addr) (a2 : Addr) (ka : ClassId) (kb : ClassId) (c0 : Int32) (c1 : Int32) (h0 : Heap) (n0 : Nat) (Z0 : n0 ≤ h0.size) (X00 : Old Z n0 h0) (V_a1 : Arv Z h0 a1 ka .char (2 : Int32) [.int c0, .int c1] (.int 0)) (V_a2 : Arv Z h0 a2 kb .byte (2 : Int32) [.int 0, .int 0] (.int 0)) (g_a2 : n0 ≤ a2) (ne_a1_a2 : a1 ≠ a2) (hl0 : ¬ ((255 : Int32) < c0)) (hl1 : ¬ ((255 : Int32) < c1)) :
    Met l Z h0 y6 jdk_52_method_21_code 7 (some .int) ws (Room.mk 0 0 0 0) #[.ref a1, .int 0, .ref a2, .int 0, .int 2] (Qc5L2 Z G1 fm a1 a2 ka kb c0 c1 h0 n0) := by
  obtain ⟨hw, O_cs, P_cs, O_as, O_hi, O_lo, O_fm, R_fm⟩ := id hG
  have W := @own_W _ _ hw
  refine own_go "java/lang/StringUTF16" rfl (plainFor_of_name pn_java_lang_StringUTF16) ?_
  intro p e s m below meth c s₁ Bd hx hby hml hown hnm X0 e0 hZ
  have hB := @hb _ _ hby
  have N0 := Fr.nil n0
  obtain ⟨clq93, Arq93, qaq93, Sq93, Nq93, Hq93, Gq93⟩ := id V_a1
  have hinq93 := inb_of (j := (0 : Int32)) Sq93 ⟨by decide, by decide⟩
  have hatq93 := Has.at (v := (.int c0)) Hq93 hinq93 rfl
  obtain ⟨clq94, Arq94, qaq94, Sq94, Nq94, Hq94, Gq94⟩ := id V_a2
  have hinq94 := inb_of (j := (0 : Int32)) Sq94 ⟨by decide, by decide⟩
  obtain ⟨T95, h95, X95, e95, W95, st95⟩ := stB X0 hx hZ e0 Arq94 (j := (0 : Int32)) hinq94 (g := (mkF m 31 #[.val (.ref a1), .val (.int 0), .val (.ref a2), .val (.int 0), .val (.int 2), .val (.int 0), .val (.int c0)] [(.int (c0.toInt8.toInt32)), .int 0, .ref a2])) rfl rfl (hB d6_31)
  have V95 : Arv Z h95 a2 kb .byte (2 : Int32) [(.int ((c0.toInt8.toInt32).toInt8.toInt32)), .int 0] (.int 0) := Arv.set Arq94 qaq94 Sq94 Nq94 Hq94 Gq94 (fits_nar_byte _) W95 0 rfl (own_ble rfl)
  have Z96 : n0 ≤ h95.size := Nat.le_trans Z0 (Keep.of_wr W95).1
  have K0_96 : Keep h0 h95 [a2] := (Keep.refl h0 [a2]).wr W95 (Or.inl (List.mem_of_getElem? (i := 0) rfl))
  have O96 : Old Z n0 h95 := X00.wr W95 g_a2
  have N95 := Fr.snoc X95 N0 g_a2
  have f97 := (V_a1.other W95 ne_a1_a2)
  obtain ⟨clq98, Arq98, qaq98, Sq98, Nq98, Hq98, Gq98⟩ := id f97
  have hinq98 := inb_of (j := (1 : Int32)) Sq98 ⟨by decide, by decide⟩
  have hatq98 := Has.at (v := (.int c1)) Hq98 hinq98 rfl
  obtain ⟨clq99, Arq99, qaq99, Sq99, Nq99, Hq99, Gq99⟩ := id V95
  have hinq99 := inb_of (j := (1 : Int32)) Sq99 ⟨by decide, by decide⟩
  obtain ⟨T100, h100, X100, e100, W100, st100⟩ := stB X95 hx hZ e95 Arq99 (j := (1 : Int32)) hinq99 (g := (mkF m 31 #[.val (.ref a1), .val (.int 1), .val (.ref a2), .val (.int 1), .val (.int 2), .val (.int 1), .val (.int c1)] [(.int (c1.toInt8.toInt32)), .int 1, .ref a2])) rfl rfl (hB d6_31)
  have V100 : Arv Z h100 a2 kb .byte (2 : Int32) [(.int ((c0.toInt8.toInt32).toInt8.toInt32)), (.int ((c1.toInt8.toInt32).toInt8.toInt32))] (.int 0) := Arv.set Arq99 qaq99 Sq99 Nq99 Hq99 Gq99 (fits_nar_byte _) W100 1 rfl (own_ble rfl)
  have Z101 : n0 ≤ h100.size := Nat.le_trans Z96 (Keep.of_wr W100).1
  have K0_101 : Keep h0 h100 [a2] := K0_96.wr W100 (Or.inl (List.mem_of_getElem? (i := 0) rfl))
  have O101 : Old Z n0 h100 := O96.wr W100 g_a2
  have N100 := Fr.snoc X100 N95 g_a2
  obtain ⟨fs, hr, hrun, hended, hW, hsame⟩ := X100.leave (v := some (.int 2)) (fun h => by rw [Bd.returns] at h; cases h)
  refine ⟨_, _, castTop (ef_jdk_52_method_21_code_RIRII m a1 (0 : Int32) a2 (0 : Int32) (2 : Int32)) ?_, hrun, hended, _, _, rfl, ?_, ⟨_, rfl⟩, hW, hsame.mono (own_ble rfl) (own_ble rfl)⟩
  · show Steps _ _ _ (s₁.setTop (mkF m 0 #[.val (.ref a1), .val (.int 0), .val (.ref a2), .val (.int 0), .val (.int 2), .unset, .unset] [])) _
    refine XS.iconst X0.here hx rfl (hB d6_0) ?_
    refine XS.istore X0.here hx rfl (hB d6_1) rfl (l' := #[.val (.ref a1), .val (.int 0), .val (.ref a2), .val (.int 0), .val (.int 2), .val (.int 0), .unset]) rfl ?_
    refine XS.iload X0.here hx rfl (hB d6_3) rfl ?_
    refine XS.iload X0.here hx rfl (hB d6_5) rfl ?_
    refine XS.icmpNo X0.here hx rfl (hB d6_7) rfl (tlt (by decide : (0 : Int32) < (2 : Int32))).2.1 ?_
    refine XS.aloadN X0.here hx rfl (hB d6_10) rfl rfl ?_
    refine XS.iloadN X0.here hx rfl (hB d6_11) rfl ?_
    refine X0.caload hx (j := (0 : Int32)) (v := (.int c0)) (own_cell e0 Arq93.1) (State.isArrayOf_alike hZ.alike Arq93.2.1) Arq93.2.2 hinq93 hatq93 (g := (mkF m 12 #[.val (.ref a1), .val (.int 0), .val (.ref a2), .val (.int 0), .val (.int 2), .val (.int 0), .unset] [.int 0, .ref a1])) rfl rfl (hB d6_12) _ ?_
    refine XS.istore X0.here hx rfl (hB d6_13) rfl (l' := #[.val (.ref a1), .val (.int 0), .val (.ref a2), .val (.int 0), .val (.int 2), .val (.int 0), .val (.int c0)]) rfl ?_
    refine XS.iload X0.here hx rfl (hB d6_15) rfl ?_
    refine XS.sipush X0.here hx rfl (hB d6_17) ?_
    refine XS.icmpYes X0.here hx rfl (pc0 := 20) (pc' := 26) rfl (hB d6_20) rfl (flt (hl0 : ¬ ((255 : Int32) < c0))).2.2.2 (by decide) (by decide) ?_
    refine XS.aloadN X0.here hx rfl (hB d6_26) rfl rfl ?_
    refine XS.iloadN X0.here hx rfl (hB d6_27) rfl ?_
    refine XS.iload X0.here hx rfl (hB d6_28) rfl ?_
    refine XS.i2b X0.here hx rfl (hB d6_30) rfl ?_
    show Steps _ _ _ (s₁.setTop (mkF m 31 #[.val (.ref a1), .val (.int 0), .val (.ref a2), .val (.int 0), .val (.int 2), .val (.int 0), .val (.int c0)] [(.int (c0.toInt8.toInt32)), .int 0, .ref a2])) _
    refine st95 _ ?_
    show Steps _ _ _ (T95.setTop (mkF m 32 #[.val (.ref a1), .val (.int 0), .val (.ref a2), .val (.int 0), .val (.int 2), .val (.int 0), .val (.int c0)] [])) _
    refine XS.iinc X95.here hx rfl (hB d6_32) rfl (l' := #[.val (.ref a1), .val (.int 1), .val (.ref a2), .val (.int 0), .val (.int 2), .val (.int 0), .val (.int c0)]) rfl ?_
    refine XS.iinc X95.here hx rfl (hB d6_35) rfl (l' := #[.val (.ref a1), .val (.int 1), .val (.ref a2), .val (.int 1), .val (.int 2), .val (.int 0), .val (.int c0)]) rfl ?_
    refine XS.iinc X95.here hx rfl (hB d6_38) rfl (l' := #[.val (.ref a1), .val (.int 1), .val (.ref a2), .val (.int 1), .val (.int 2), .val (.int 1), .val (.int c0)]) rfl ?_
    refine XS.goto X95.here hx rfl (pc0 := 41) (pc' := 3) rfl (hB d6_41) (by decide) (by decide) ?_
    refine XS.iload X95.here hx rfl (hB d6_3) rfl ?_
    refine XS.iload X95.here hx rfl (hB d6_5) rfl ?_
    refine XS.icmpNo X95.here hx rfl (hB d6_7) rfl (tlt (by decide : (1 : Int32) < (2 : Int32))).2.1 ?_
    refine XS.aloadN X95.here hx rfl (hB d6_10) rfl rfl ?_
    refine XS.iloadN X95.here hx rfl (hB d6_11) rfl ?_
    refine X95.caload hx (j := (1 : Int32)) (v := (.int c1)) (own_cell e95 Arq98.1) (State.isArrayOf_alike hZ.alike Arq98.2.1) Arq98.2.2 hinq98 hatq98 (g := (mkF m 12 #[.val (.ref a1), .val (.int 1), .val (.ref a2), .val (.int 1), .val (.int 2), .val (.int 1), .val (.int c0)] [.int 1, .ref a1])) rfl rfl (hB d6_12) _ ?_
    refine XS.istore X95.here hx rfl (hB d6_13) rfl (l' := #[.val (.ref a1), .val (.int 1), .val (.ref a2), .val (.int 1), .val (.int 2), .val (.int 1), .val (.int c1)]) rfl ?_
    refine XS.iload X95.here hx rfl (hB d6_15) rfl ?_
    refine XS.sipush X95.here hx rfl (hB d6_17) ?_
    refine XS.icmpYes X95.here hx rfl (pc0 := 20) (pc' := 26) rfl (hB d6_20) rfl (flt (hl1 : ¬ ((255 : Int32) < c1))).2.2.2 (by decide) (by decide) ?_
    refine XS.aloadN X95.here hx rfl (hB d6_26) rfl rfl ?_
    refine XS.iloadN X95.here hx rfl (hB d6_27) rfl ?_
    show Steps _ _ _ (T95.setTop (mkF m 28 #[.val (.ref a1), .val (.int 1), .val (.ref a2), .val (.int 1), .val (.int 2), .val (.int 1), .val (.int c1)] [.int 1, .ref a2])) _
    refine XS.iload X95.here hx rfl (hB d6_28) rfl ?_
    refine XS.i2b X95.here hx rfl (hB d6_30) rfl ?_
    refine st100 _ ?_
    show Steps _ _ _ (T100.setTop (mkF m 32 #[.val (.ref a1), .val (.int 1), .val (.ref a2), .val (.int 1), .val (.int 2), .val (.int 1), .val (.int c1)] [])) _
    refine XS.iinc X100.here hx rfl (hB d6_32) rfl (l' := #[.val (.ref a1), .val (.int 2), .val (.ref a2), .val (.int 1), .val (.int 2), .val (.int 1), .val (.int c1)]) rfl ?_
    refine XS.iinc X100.here hx rfl (hB d6_35) rfl (l' := #[.val (.ref a1), .val (.int 2), .val (.ref a2), .val (.int 2), .val (.int 2), .val (.int 1), .val (.int c1)]) rfl ?_
    refine XS.iinc X100.here hx rfl (hB d6_38) rfl (l' := #[.val (.ref a1), .val (.int 2), .val (.ref a2), .val (.int 2), .val (.int 2), .val (.int 2), .val (.int c1)]) rfl ?_
    refine XS.goto X100.here hx rfl (pc0 := 41) (pc' := 3) rfl (hB d6_41) (by decide) (by decide) ?_
    refine XS.iload X100.here hx rfl (hB d6_3) rfl ?_
    refine XS.iload X100.here hx rfl (hB d6_5) rfl ?_
    refine XS.icmpYes X100.here hx rfl (pc0 := 7) (pc' := 44) rfl (hB d6_7) rfl (flt (by decide : ¬ ((2 : Int32) < (2 : Int32)))).2.1 (by decide) (by decide) ?_
    refine XS.iload X100.here hx rfl (hB d6_44) rfl ?_
    exact retOut X100 hx Bd.returns rfl (Or.inl ⟨rfl, Or.inl rfl, _, rfl⟩) (hB d6_46) hr
  · show Qc5L2 Z G1 fm a1 a2 ka kb c0 c1 h0 n0 _ T100.heap _
    rw [e100]
    exact ⟨rfl, N100, K0_101, V100⟩
def Qc5W2 (Z : State) (G1 : Int32) (fm : Value) (a1 : Addr) (a2 : Addr) (ka : ClassId) (kb : ClassId) (c0 : Int32) (c1 : Int32) (h0 : Heap) (n0 : Nat) (v : Option Value) (h : Heap) (L : List Loc) : Prop := ∃ j : Int32, v = some (.int j) ∧ Fr n0 L ∧ Keep h0 h [a2] ∧ own_first j [c0, c1]
theorem rmc5W2_0 (l : Launch) (Z : State) (a0 : Array Value) (G1 : Int32) (fm : Value) (hG : Glob Z a0 G1 fm) (ws : List Jvm.Cond) (a1 : Addr) (a2 : Addr) (ka : ClassId) (kb : ClassId) (c0 : Int32) (c1 : Int32) (h0 : Heap) (n0 : Nat) (Z0 : n0 ≤ h0.size) (X00 : Old Z n0 h0) (V_a1 : Arv Z h0 a1 ka .char (2 : Int32) [.int c0, .int c1] (.int 0)) (V_a2 : Arv Z h0 a2 kb .byte (2 : Int32) [.int 0, .int 0] (.int 0)) (g_a2 : n0 ≤ a2) (ne_a1_a2 : a1 ≠ a2) (hwid : ¬ (¬ ((255 : Int32) < c0) ∧ ¬ ((255 : Int32) < c1))) (hwd : (255 : Int32) < c0) :
    Met l Z h0 y6 jdk_52_method_21_code 7 (some .int) ws (Room.mk 0 0 0 0) #[.ref a1, .int 0, .ref a2, .int 0, .int 2] (Qc5W2 Z G1 fm a1 a2 ka kb c0 c1 h0 n0) := by
  obtain ⟨hw, O_cs, P_cs, O_as, O_hi, O_lo, O_fm, R_fm⟩ := id hG
  have W := @own_W _ _ hw
  refine own_go "java/lang/StringUTF16" rfl (plainFor_of_name pn_java_lang_StringUTF16) ?_
  intro p e s m below meth c s₁ Bd hx hby hml hown hnm X0 e0 hZ
  have hB := @hb _ _ hby
  have N0 := Fr.nil n0
  obtain ⟨clq102, Arq102, qaq102, Sq102, Nq102, Hq102, Gq102⟩ := id V_a1
  have hinq102 := inb_of (j := (0 : Int32)) Sq102 ⟨by decide, by decide⟩
  have hatq102 := Has.at (v := (.int c0)) Hq102 hinq102 rfl
  obtain ⟨fs, hr, hrun, hended, hW, hsame⟩ := X0.leave (v := some (.int 0)) (fun h => by rw [Bd.returns] at h; cases h)
  refine ⟨_, _, castTop (ef_jdk_52_method_21_code_RIRII m a1 (0 : Int32) a2 (0 : Int32) (2 : Int32)) ?_, hrun, hended, _, _, rfl, ?_, ⟨_, rfl⟩, hW, hsame.mono (own_ble rfl) (own_ble rfl)⟩
  · show Steps _ _ _ (s₁.setTop (mkF m 0 #[.val (.ref a1), .val (.int 0), .val (.ref a2), .val (.int 0), .val (.int 2), .unset, .unset] [])) _
    refine XS.iconst X0.here hx rfl (hB d6_0) ?_
    refine XS.istore X0.here hx rfl (hB d6_1) rfl (l' := #[.val (.ref a1), .val (.int 0), .val (.ref a2), .val (.int 0), .val (.int 2), .val (.int 0), .unset]) rfl ?_
    refine XS.iload X0.here hx rfl (hB d6_3) rfl ?_
    refine XS.iload X0.here hx rfl (hB d6_5) rfl ?_
    refine XS.icmpNo X0.here hx rfl (hB d6_7) rfl (tlt (by decide : (0 : Int32) < (2 : Int32))).2.1 ?_
    refine XS.aloadN X0.here hx rfl (hB d6_10) rfl rfl ?_
    refine XS.iloadN X0.here hx rfl (hB d6_11) rfl ?_
    refine X0.caload hx (j := (0 : Int32)) (v := (.int c0)) (own_cell e0 Arq102.1) (State.isArrayOf_alike hZ.alike Arq102.2.1) Arq102.2.2 hinq102 hatq102 (g := (mkF m 12 #[.val (.ref a1), .val (.int 0), .val (.ref a2), .val (.int 0), .val (.int 2), .val (.int 0), .unset] [.int 0, .ref a1])) rfl rfl (hB d6_12) _ ?_
    refine XS.istore X0.here hx rfl (hB d6_13) rfl (l' := #[.val (.ref a1), .val (.int 0), .val (.ref a2), .val (.int 0), .val (.int 2), .val (.int 0), .val (.int c0)]) rfl ?_
    refine XS.iload X0.here hx rfl (hB d6_15) rfl ?_
    refine XS.sipush X0.here hx rfl (hB d6_17) ?_
    refine XS.icmpNo X0.here hx rfl (hB d6_20) rfl (tlt (hwd : (255 : Int32) < c0)).2.2.2 ?_
    refine XS.iload X0.here hx rfl (hB d6_23) rfl ?_
    exact retOut X0 hx Bd.returns rfl (Or.inl ⟨rfl, Or.inl rfl, _, rfl⟩) (hB d6_25) hr
  · show Qc5W2 Z G1 fm a1 a2 ka kb c0 c1 h0 n0 _ s₁.heap _
    rw [e0]
    exact ⟨(0 : Int32), rfl, N0, (Keep.refl h0 [a2]), ⟨0, c0, rfl, rfl, hwd⟩⟩
theorem rmc5W2_1 (l : Launch) (Z : State) (a0 : Array Value) (G1 : Int32) (fm : Value) (hG : Glob Z a0 G1 fm) (ws : List Jvm.Cond) (a1 : Addr) (a2 : Addr) (ka : ClassId) (kb : ClassId) (c0 : Int32) (c1 : Int32) (h0 : Heap) (n0 : Nat) (Z0 : n0 ≤ h0.size) (X00 : Old Z n0 h0) (V_a1 : Arv Z h0 a1 ka .char (2 : Int32) [.int c0, .int c1] (.int 0)) (V_a2 : Arv Z h0 a2 kb .byte (2 : Int32) [.int 0, .int 0] (.int 0)) (g_a2 : n0 ≤ a2) (ne_a1_a2 : a1 ≠ a2) (hwid : ¬ (¬ ((255 : Int32) < c0) ∧ ¬ ((255 : Int32) < c1))) (hl0 : ¬ ((255 : Int32) < c0)) (hwd : (255 : Int32) < c1) :
    Met l Z h0 y6 jdk_52_method_21_code 7 (some .int) ws (Room.mk 0 0 0 0) #[.ref a1, .int 0, .ref a2, .int 0, .int 2] (Qc5W2 Z G1 fm a1 a2 ka kb c0 c1 h0 n0) := by
  obtain ⟨hw, O_cs, P_cs, O_as, O_hi, O_lo, O_fm, R_fm⟩ := id hG
  have W := @own_W _ _ hw
  refine own_go "java/lang/StringUTF16" rfl (plainFor_of_name pn_java_lang_StringUTF16) ?_
  intro p e s m below meth c s₁ Bd hx hby hml hown hnm X0 e0 hZ
  have hB := @hb _ _ hby
  have N0 := Fr.nil n0
  obtain ⟨clq103, Arq103, qaq103, Sq103, Nq103, Hq103, Gq103⟩ := id V_a1
  have hinq103 := inb_of (j := (0 : Int32)) Sq103 ⟨by decide, by decide⟩
  have hatq103 := Has.at (v := (.int c0)) Hq103 hinq103 rfl
  obtain ⟨clq104, Arq104, qaq104, Sq104, Nq104, Hq104, Gq104⟩ := id V_a2
  have hinq104 := inb_of (j := (0 : Int32)) Sq104 ⟨by decide, by decide⟩
  obtain ⟨T105, h105, X105, e105, W105, st105⟩ := stB X0 hx hZ e0 Arq104 (j := (0 : Int32)) hinq104 (g := (mkF m 31 #[.val (.ref a1), .val (.int 0), .val (.ref a2), .val (.int 0), .val (.int 2), .val (.int 0), .val (.int c0)] [(.int (c0.toInt8.toInt32)), .int 0, .ref a2])) rfl rfl (hB d6_31)
  have V105 : Arv Z h105 a2 kb .byte (2 : Int32) [(.int ((c0.toInt8.toInt32).toInt8.toInt32)), .int 0] (.int 0) := Arv.set Arq104 qaq104 Sq104 Nq104 Hq104 Gq104 (fits_nar_byte _) W105 0 rfl (own_ble rfl)
  have Z106 : n0 ≤ h105.size := Nat.le_trans Z0 (Keep.of_wr W105).1
  have K0_106 : Keep h0 h105 [a2] := (Keep.refl h0 [a2]).wr W105 (Or.inl (List.mem_of_getElem? (i := 0) rfl))
  have O106 : Old Z n0 h105 := X00.wr W105 g_a2
  have N105 := Fr.snoc X105 N0 g_a2
  have f107 := (V_a1.other W105 ne_a1_a2)
  obtain ⟨clq108, Arq108, qaq108, Sq108, Nq108, Hq108, Gq108⟩ := id f107
  have hinq108 := inb_of (j := (1 : Int32)) Sq108 ⟨by decide, by decide⟩
  have hatq108 := Has.at (v := (.int c1)) Hq108 hinq108 rfl
  obtain ⟨fs, hr, hrun, hended, hW, hsame⟩ := X105.leave (v := some (.int 1)) (fun h => by rw [Bd.returns] at h; cases h)
  refine ⟨_, _, castTop (ef_jdk_52_method_21_code_RIRII m a1 (0 : Int32) a2 (0 : Int32) (2 : Int32)) ?_, hrun, hended, _, _, rfl, ?_, ⟨_, rfl⟩, hW, hsame.mono (own_ble rfl) (own_ble rfl)⟩
  · show Steps _ _ _ (s₁.setTop (mkF m 0 #[.val (.ref a1), .val (.int 0), .val (.ref a2), .val (.int 0), .val (.int 2), .unset, .unset] [])) _
    refine XS.iconst X0.here hx rfl (hB d6_0) ?_
    refine XS.istore X0.here hx rfl (hB d6_1) rfl (l' := #[.val (.ref a1), .val (.int 0), .val (.ref a2), .val (.int 0), .val (.int 2), .val (.int 0), .unset]) rfl ?_
    refine XS.iload X0.here hx rfl (hB d6_3) rfl ?_
    refine XS.iload X0.here hx rfl (hB d6_5) rfl ?_
    refine XS.icmpNo X0.here hx rfl (hB d6_7) rfl (tlt (by decide : (0 : Int32) < (2 : Int32))).2.1 ?_
    refine XS.aloadN X0.here hx rfl (hB d6_10) rfl rfl ?_
    refine XS.iloadN X0.here hx rfl (hB d6_11) rfl ?_
    refine X0.caload hx (j := (0 : Int32)) (v := (.int c0)) (own_cell e0 Arq103.1) (State.isArrayOf_alike hZ.alike Arq103.2.1) Arq103.2.2 hinq103 hatq103 (g := (mkF m 12 #[.val (.ref a1), .val (.int 0), .val (.ref a2), .val (.int 0), .val (.int 2), .val (.int 0), .unset] [.int 0, .ref a1])) rfl rfl (hB d6_12) _ ?_
    refine XS.istore X0.here hx rfl (hB d6_13) rfl (l' := #[.val (.ref a1), .val (.int 0), .val (.ref a2), .val (.int 0), .val (.int 2), .val (.int 0), .val (.int c0)]) rfl ?_
    refine XS.iload X0.here hx rfl (hB d6_15) rfl ?_
    refine XS.sipush X0.here hx rfl (hB d6_17) ?_
    refine XS.icmpYes X0.here hx rfl (pc0 := 20) (pc' := 26) rfl (hB d6_20) rfl (flt (hl0 : ¬ ((255 : Int32) < c0))).2.2.2 (by decide) (by decide) ?_
    refine XS.aloadN X0.here hx rfl (hB d6_26) rfl rfl ?_
    refine XS.iloadN X0.here hx rfl (hB d6_27) rfl ?_
    refine XS.iload X0.here hx rfl (hB d6_28) rfl ?_
    refine XS.i2b X0.here hx rfl (hB d6_30) rfl ?_
    show Steps _ _ _ (s₁.setTop (mkF m 31 #[.val (.ref a1), .val (.int 0), .val (.ref a2), .val (.int 0), .val (.int 2), .val (.int 0), .val (.int c0)] [(.int (c0.toInt8.toInt32)), .int 0, .ref a2])) _
    refine st105 _ ?_
    show Steps _ _ _ (T105.setTop (mkF m 32 #[.val (.ref a1), .val (.int 0), .val (.ref a2), .val (.int 0), .val (.int 2), .val (.int 0), .val (.int c0)] [])) _
    refine XS.iinc X105.here hx rfl (hB d6_32) rfl (l' := #[.val (.ref a1), .val (.int 1), .val (.ref a2), .val (.int 0), .val (.int 2), .val (.int 0), .val (.int c0)]) rfl ?_
    refine XS.iinc X105.here hx rfl (hB d6_35) rfl (l' := #[.val (.ref a1), .val (.int 1), .val (.ref a2), .val (.int 1), .val (.int 2), .val (.int 0), .val (.int c0)]) rfl ?_
    refine XS.iinc X105.here hx rfl (hB d6_38) rfl (l' := #[.val (.ref a1), .val (.int 1), .val (.ref a2), .val (.int 1), .val (.int 2), .val (.int 1), .val (.int c0)]) rfl ?_
    refine XS.goto X105.here hx rfl (pc0 := 41) (pc' := 3) rfl (hB d6_41) (by decide) (by decide) ?_
    refine XS.iload X105.here hx rfl (hB d6_3) rfl ?_
    refine XS.iload X105.here hx rfl (hB d6_5) rfl ?_
    refine XS.icmpNo X105.here hx rfl (hB d6_7) rfl (tlt (by decide : (1 : Int32) < (2 : Int32))).2.1 ?_
    refine XS.aloadN X105.here hx rfl (hB d6_10) rfl rfl ?_
    refine XS.iloadN X105.here hx rfl (hB d6_11) rfl ?_
    refine X105.caload hx (j := (1 : Int32)) (v := (.int c1)) (own_cell e105 Arq108.1) (State.isArrayOf_alike hZ.alike Arq108.2.1) Arq108.2.2 hinq108 hatq108 (g := (mkF m 12 #[.val (.ref a1), .val (.int 1), .val (.ref a2), .val (.int 1), .val (.int 2), .val (.int 1), .val (.int c0)] [.int 1, .ref a1])) rfl rfl (hB d6_12) _ ?_
    refine XS.istore X105.here hx rfl (hB d6_13) rfl (l' := #[.val (.ref a1), .val (.int 1), .val (.ref a2), .val (.int 1), .val (.int 2), .val (.int 1), .val (.int c1)]) rfl ?_
    refine XS.iload X105.here hx rfl (hB d6_15) rfl ?_
    refine XS.sipush X105.here hx rfl (hB d6_17) ?_
    refine XS.icmpNo X105.here hx rfl (hB d6_20) rfl (tlt (hwd : (255 : Int32) < c1)).2.2.2 ?_
    refine XS.iload X105.here hx rfl (hB d6_23) rfl ?_
    exact retOut X105 hx Bd.returns rfl (Or.inl ⟨rfl, Or.inl rfl, _, rfl⟩) (hB d6_25) hr
  · show Qc5W2 Z G1 fm a1 a2 ka kb c0 c1 h0 n0 _ T105.heap _
    rw [e105]
    exact ⟨(1 : Int32), rfl, N105, K0_106, ⟨1, c1, rfl, rfl, hwd⟩⟩
theorem rmc5W2 (l : Launch) (Z : State) (a0 : Array Value) (G1 : Int32) (fm : Value) (hG : Glob Z a0 G1 fm) (ws : List Jvm.Cond) (a1 : Addr) (a2 : Addr) (ka : ClassId) (kb : ClassId) (c0 : Int32) (c1 : Int32) (h0 : Heap) (n0 : Nat) (Z0 : n0 ≤ h0.size) (X00 : Old Z n0 h0) (V_a1 : Arv Z h0 a1 ka .char (2 : Int32) [.int c0, .int c1] (.int 0)) (V_a2 : Arv Z h0 a2 kb .byte (2 : Int32) [.int 0, .int 0] (.int 0)) (g_a2 : n0 ≤ a2) (ne_a1_a2 : a1 ≠ a2) (hwid : ¬ (¬ ((255 : Int32) < c0) ∧ ¬ ((255 : Int32) < c1))) :
    Met l Z h0 y6 jdk_52_method_21_code 7 (some .int) ws (Room.mk 0 0 0 0) #[.ref a1, .int 0, .ref a2, .int 0, .int 2] (Qc5W2 Z G1 fm a1 a2 ka kb c0 c1 h0 n0) := by
  by_cases q0 : (255 : Int32) < c0
  · exact rmc5W2_0 l Z a0 G1 fm hG ws a1 a2 ka kb c0 c1 h0 n0 Z0 X00 V_a1 V_a2 g_a2 ne_a1_a2 hwid q0
  by_cases q1 : (255 : Int32) < c1
  · exact rmc5W2_1 l Z a0 G1 fm hG ws a1 a2 ka kb c0 c1 h0 n0 Z0 X00 V_a1 V_a2 g_a2 ne_a1_a2 hwid q0 q1
  exact absurd ⟨q0, q1⟩ hwid
def Qnbl2 (Z : State) (G1 : Int32) (fm : Value) (h0 : Heap) (n0 : Nat) (v : Option Value) (h : Heap) (L : List Loc) : Prop := v = some (.int 4) ∧ Fr n0 L ∧ h = h0
theorem rmnbl2 (l : Launch) (Z : State) (a0 : Array Value) (G1 : Int32) (fm : Value) (hG : Glob Z a0 G1 fm) (ws : List Jvm.Cond) (h0 : Heap) (n0 : Nat) (Z0 : n0 ≤ h0.size) (X00 : Old Z n0 h0) :
    Met l Z h0 y7 jdk_52_method_3_code 1 (some .int) ws (Room.mk 0 0 0 0) #[.int 2] (Qnbl2 Z G1 fm h0 n0) := by
  obtain ⟨hw, O_cs, P_cs, O_as, O_hi, O_lo, O_fm, R_fm⟩ := id hG
  have W := @own_W _ _ hw
  refine own_go "java/lang/StringUTF16" rfl (plainFor_of_name pn_java_lang_StringUTF16) ?_
  intro p e s m below meth c s₁ Bd hx hby hml hown hnm X0 e0 hZ
  have hB := @hb _ _ hby
  have N0 := Fr.nil n0
  obtain ⟨fs, hr, hrun, hended, hW, hsame⟩ := X0.leave (v := some (.int 4)) (fun h => by rw [Bd.returns] at h; cases h)
  refine ⟨_, _, castTop (ef_jdk_52_method_3_code_I m (2 : Int32)) ?_, hrun, hended, _, _, rfl, ?_, ⟨_, rfl⟩, hW, hsame.mono (own_ble rfl) (own_ble rfl)⟩
  · show Steps _ _ _ (s₁.setTop (mkF m 0 #[.val (.int 2)] [])) _
    refine XS.iloadN X0.here hx rfl (hB d7_0) rfl ?_
    refine XS.ifYes X0.here hx rfl (pc0 := 1) (pc' := 12) rfl (hB d7_1) rfl ((if0 _ _).trans (flt (by decide : ¬ ((2 : Int32) < (0 : Int32)))).2.1) (by decide) (by decide) ?_
    refine XS.iloadN X0.here hx rfl (hB d7_12) rfl ?_
    refine X0.ldcInt hx hown (mvT hZ (W 96 rfl)) (g := (mkF m 13 #[.val (.int 2)] [.int 2])) rfl (hB d7_13) _ ?_
    refine XS.icmpYes X0.here hx rfl (pc0 := 15) (pc' := 55) rfl (hB d7_15) rfl (tlt (by decide : (2 : Int32) < (1073741823 : Int32))).1 (by decide) (by decide) ?_
    refine XS.iloadN X0.here hx rfl (hB d7_55) rfl ?_
    refine XS.iconst X0.here hx rfl (hB d7_56) ?_
    refine XS.ishl X0.here hx rfl (hB d7_57) rfl ?_
    exact retOut X0 hx Bd.returns rfl (Or.inl ⟨rfl, Or.inl rfl, _, rfl⟩) (hB d7_58) hr
  · show Qnbl2 Z G1 fm h0 n0 _ s₁.heap _
    rw [e0]
    exact ⟨rfl, N0, rfl⟩
def Qnbf2 (Z : State) (G1 : Int32) (fm : Value) (h0 : Heap) (n0 : Nat) (v : Option Value) (h : Heap) (L : List Loc) : Prop := ∃ b : Addr, ∃ kb : ClassId, v = some (.ref b) ∧ Fr n0 L ∧ Keep h0 h [] ∧ h0.size ≤ b ∧ Arv Z h b kb .byte (4 : Int32) [.int 0, .int 0, .int 0, .int 0] (.int 0)
theorem rmnbf2 (l : Launch) (Z : State) (a0 : Array Value) (G1 : Int32) (fm : Value) (hG : Glob Z a0 G1 fm) (ws : List Jvm.Cond) (h0 : Heap) (n0 : Nat) (Z0 : n0 ≤ h0.size) (X00 : Old Z n0 h0) :
    Met l Z h0 y8 jdk_52_method_2_code 1 (some (.array .byte)) ws (Room.mk 1 1 4 12) #[.int 2] (Qnbf2 Z G1 fm h0 n0) := by
  obtain ⟨hw, O_cs, P_cs, O_as, O_hi, O_lo, O_fm, R_fm⟩ := id hG
  have W := @own_W _ _ hw
  refine own_go "java/lang/StringUTF16" rfl (plainFor_of_name pn_java_lang_StringUTF16) ?_
  intro p e s m below meth c s₁ Bd hx hby hml hown hnm X0 e0 hZ
  have hB := @hb _ _ hby
  have N0 := Fr.nil n0
  -- pc 1: java/lang/StringUTF16.newBytesLength
  obtain ⟨_, _, ⟨T109, L109, k109, n109⟩, -, X109, ⟨Lc109, hQ109, l109, y109, z109⟩, st109⟩ := Jvm.LawKit.callS X0 hx (y := y7) hown (mvT hZ (W 93 rfl)) (mvT hZ (W 94 rfl)) (mvT hZ (W 76 rfl)) (mvT hZ (W 95 rfl)) (by decide) (backOf (W := 0) (rmnbl2 l Z a0 G1 fm hG [] h0 n0 Z0 X00) hZ (W 95 rfl) (W 76 rfl) (by decide) (by decide)) (g := (mkF m 1 #[.val (.int 2)] [.int 2])) rfl (by rw [hml]; rfl) (argsL := [.int 2]) (rest := []) (lenOf pd__I_I rfl) rfl (by show 2 * 0 + _ ≤ _; exact Nat.le_of_eq rfl) (hB d8_1) (fun _ _ => ⟨rfl, e0, (by decide : 0 + 0 ≤ _), (by decide : 0 + 0 ≤ _)⟩)
  dsimp only [Pt.U, Pt.locs, Pt.cells, Pt.slots] at X109 l109 y109 z109 st109 hQ109
  subst l109 y109 z109
  obtain ⟨rfl, N109q, eq109⟩ := hQ109
  have N109 := Fr.app N0 N109q
  obtain ⟨T110, h110, k110, X110, e110, E110, A110, Q110, st110⟩ := newPE X109 hx hZ (W 23 rfl) eq109 (g := (mkF m 4 #[.val (.int 2)] [.int 4])) rfl (hB d8_4) rfl (by decide) (cap := 4) (by decide) (by decide) (by decide) (by decide) (ad := "[B") rfl
  obtain ⟨b110, g110⟩ : ∃ z, z = h0.size := ⟨_, rfl⟩
  rw [← g110] at A110 Q110 st110
  have Z111 : n0 ≤ h110.size := Nat.le_trans Z0 E110.1
  have K0_111 : Keep h0 h110 [] := (Keep.refl h0 []).ext E110
  have O111 : Old Z n0 h110 := X00.ext E110
  have lo_b110 : h0.size ≤ b110 := Nat.le_of_eq g110.symm
  have g_b110 : n0 ≤ b110 := Nat.le_trans Z0 lo_b110
  have l0_b110 : h0.size ≤ b110 := Nat.le_trans (Keep.refl h0 []).1 lo_b110
  have V_b110 : Arv Z h110 b110 k110 .byte (4 : Int32) [.int 0, .int 0, .int 0, .int 0] (.int 0) := (Arv.new A110 (by decide)).pad (pad_rep [] (.int 0) 4)
  obtain ⟨fs, hr, hrun, hended, hW, hsame⟩ := X110.leave (v := some (.ref b110)) (fun h => by rw [Bd.returns] at h; cases h)
  refine ⟨_, _, castTop (ef_jdk_52_method_2_code_I m (2 : Int32)) ?_, hrun, hended, _, _, rfl, ?_, ⟨_, rfl⟩, hW, hsame.mono (own_ble rfl) (own_ble rfl)⟩
  · show Steps _ _ _ (s₁.setTop (mkF m 0 #[.val (.int 2)] [])) _
    refine XS.iloadN X0.here hx rfl (hB d8_0) rfl ?_
    refine st109 _ ?_
    show Steps _ _ _ (T109.setTop (mkF m 4 #[.val (.int 2)] [.int 4])) _
    refine st110 _ ?_
    show Steps _ _ _ (T110.setTop (mkF m 6 #[.val (.int 2)] [.ref b110])) _
    exact retOut X110 hx Bd.returns rfl (Or.inr (Or.inr (Or.inr (Or.inr ⟨rfl, rfl, rfl⟩)))) (hB d8_6) hr
  · show Qnbf2 Z G1 fm h0 n0 _ T110.heap _
    rw [e110]
    exact ⟨b110, k110, rfl, N109, K0_111, l0_b110, V_b110⟩
def Qtob2 (Z : State) (G1 : Int32) (fm : Value) (a1 : Addr) (ka : ClassId) (c0 : Int32) (c1 : Int32) (h0 : Heap) (n0 : Nat) (v : Option Value) (h : Heap) (L : List Loc) : Prop := ∃ b : Addr, ∃ kb : ClassId, v = some (.ref b) ∧ Fr n0 L ∧ Keep h0 h [] ∧ h0.size ≤ b ∧ Arv Z h b kb .byte (4 : Int32) [(.int (((c0 >>> ((0 : Int32) &&& 31)).toInt8.toInt32).toInt8.toInt32)), (.int (((c0 >>> ((8 : Int32) &&& 31)).toInt8.toInt32).toInt8.toInt32)), (.int (((c1 >>> ((0 : Int32) &&& 31)).toInt8.toInt32).toInt8.toInt32)), (.int (((c1 >>> ((8 : Int32) &&& 31)).toInt8.toInt32).toInt8.toInt32))] (.int 0)
theorem rmtob2 (l : Launch) (Z : State) (a0 : Array Value) (G1 : Int32) (fm : Value) (hG : Glob Z a0 G1 fm) (ws : List Jvm.Cond) (a1 : Addr) (ka : ClassId) (c0 : Int32) (c1 : Int32) (h0 : Heap) (n0 : Nat) (Z0 : n0 ≤ h0.size) (X00 : Old Z n0 h0) (V_a1 : Arv Z h0 a1 ka .char (2 : Int32) [.int c0, .int c1] (.int 0)) :
    Met l Z h0 y9 jdk_52_method_14_code 5 (some (.array .byte)) ws (Room.mk 2 1 4 24) #[.ref a1, .int 0, .int 2] (Qtob2 Z G1 fm a1 ka c0 c1 h0 n0) := by
  obtain ⟨hw, O_cs, P_cs, O_as, O_hi, O_lo, O_fm, R_fm⟩ := id hG
  have W := @own_W _ _ hw
  refine own_go "java/lang/StringUTF16" rfl (plainFor_of_name pn_java_lang_StringUTF16) ?_
  intro p e s m below meth c s₁ Bd hx hby hml hown hnm X0 e0 hZ
  have hB := @hb _ _ hby
  have N0 := Fr.nil n0
  -- pc 1: java/lang/StringUTF16.newBytesFor
  obtain ⟨_, _, ⟨T112, L112, k112, n112⟩, -, X112, ⟨Lc112, hQ112, l112, y112, z112⟩, st112⟩ := Jvm.LawKit.callS X0 hx (y := y8) hown (mvT hZ (W 90 rfl)) (mvT hZ (W 91 rfl)) (mvT hZ (W 76 rfl)) (mvT hZ (W 92 rfl)) (by decide) (backOf (W := 0) (rmnbf2 l Z a0 G1 fm hG [] h0 n0 Z0 X00) hZ (W 92 rfl) (W 76 rfl) (by decide) (by decide)) (g := (mkF m 1 #[.val (.ref a1), .val (.int 0), .val (.int 2), .unset, .unset] [.int 2])) rfl (by rw [hml]; rfl) (argsL := [.int 2]) (rest := []) (lenOf pd__I__B rfl) rfl (by show 2 * 0 + _ ≤ _; exact Nat.le_of_eq rfl) (hB d9_1) (fun _ _ => ⟨rfl, e0, (by decide : 0 + 1 ≤ _), (by decide : 0 + 4 ≤ _)⟩)
  dsimp only [Pt.U, Pt.locs, Pt.cells, Pt.slots] at X112 l112 y112 z112 st112 hQ112
  subst l112 y112 z112
  obtain ⟨b_112, kb_112, rfl, N112q, K112, f112_0, f112_1⟩ := hQ112
  have N112 := Fr.app N0 N112q
  have Z113 : n0 ≤ T112.heap.size := Nat.le_trans Z0 K112.1
  have K0_113 : Keep h0 T112.heap [] := (Keep.refl h0 []).trans K112 all0
  have O113 : Old Z n0 T112.heap := X00.keep K112 all0
  have lo_b_112 : h0.size ≤ b_112 := f112_0
  have g_b_112 : n0 ≤ b_112 := Nat.le_trans Z0 lo_b_112
  have l0_b_112 : h0.size ≤ b_112 := Nat.le_trans (Keep.refl h0 []).1 lo_b_112
  have f114 := (V_a1.keep K112 nin0)
  obtain ⟨clq115, Arq115, qaq115, Sq115, Nq115, Hq115, Gq115⟩ := id f114
  have hinq115 := inb_of (j := (0 : Int32)) Sq115 ⟨by decide, by decide⟩
  have hatq115 := Has.at (v := (.int c0)) Hq115 hinq115 rfl
  -- pc 20: java/lang/StringUTF16.putChar
  obtain ⟨_, _, ⟨T116, L116, k116, n116⟩, -, X116, ⟨Lc116, hQ116, l116, y116, z116⟩, st116⟩ := Jvm.LawKit.callS X112 hx (y := y1) hown (mvT hZ (W 97 rfl)) (mvT hZ (W 98 rfl)) (mvT hZ (W 76 rfl)) (mvT hZ (W 99 rfl)) (by decide) (backOf (W := 0) (rmput l Z a0 G1 fm hG [] b_112 kb_112 (4 : Int32) ([.int 0, .int 0, .int 0, .int 0] : List Value) (0 : Int32) 0 c0 T112.heap n0 Z113 O113 f112_1 g_b_112 (by decide) (by decide) (own_ble rfl) (by decide) (by decide) (own_ble rfl)) hZ (W 99 rfl) (W 76 rfl) (by decide) (by decide)) (g := (mkF m 20 #[.val (.ref a1), .val (.int 0), .val (.int 2), .val (.ref b_112), .val (.int 0)] [.int c0, .int 0, .ref b_112])) rfl (by rw [hml]; rfl) (argsL := [.ref b_112, .int 0, .int c0]) (rest := []) (lenOf pd___BII_V rfl) rfl (by show 2 * 0 + _ ≤ _; exact Nat.le_of_eq rfl) (hB d9_20) (fun _ _ => ⟨rfl, rfl, (by decide : 1 + 0 ≤ _), (by decide : 4 + 0 ≤ _)⟩)
  dsimp only [Pt.U, Pt.locs, Pt.cells, Pt.slots] at X116 l116 y116 z116 st116 hQ116
  subst l116 y116 z116
  obtain ⟨rfl, N116q, K116, f116_0⟩ := hQ116
  have N116 := Fr.app N112 N116q
  have Z117 : n0 ≤ T116.heap.size := Nat.le_trans Z113 K116.1
  have K0_117 : Keep h0 T116.heap [] := K0_113.trans K116 (allS (Or.inr l0_b_112) all0)
  have O117 : Old Z n0 T116.heap := O113.keep K116 (allS g_b_112 all0)
  have cv116 : Arv Z T116.heap b_112 kb_112 .byte (4 : Int32) [(.int (((c0 >>> ((0 : Int32) &&& 31)).toInt8.toInt32).toInt8.toInt32)), (.int (((c0 >>> ((8 : Int32) &&& 31)).toInt8.toInt32).toInt8.toInt32)), .int 0, .int 0] (.int 0) := f116_0
  have f118 := (f114.keep K116 (ninS (Nat.ne_of_lt (Nat.lt_of_lt_of_le V_a1.lt lo_b_112)) nin0))
  obtain ⟨clq119, Arq119, qaq119, Sq119, Nq119, Hq119, Gq119⟩ := id f118
  have hinq119 := inb_of (j := (1 : Int32)) Sq119 ⟨by decide, by decide⟩
  have hatq119 := Has.at (v := (.int c1)) Hq119 hinq119 rfl
  -- pc 20: java/lang/StringUTF16.putChar
  obtain ⟨_, _, ⟨T120, L120, k120, n120⟩, -, X120, ⟨Lc120, hQ120, l120, y120, z120⟩, st120⟩ := Jvm.LawKit.callS X116 hx (y := y1) hown (mvT hZ (W 97 rfl)) (mvT hZ (W 98 rfl)) (mvT hZ (W 76 rfl)) (mvT hZ (W 99 rfl)) (by decide) (backOf (W := 0) (rmput l Z a0 G1 fm hG [] b_112 kb_112 (4 : Int32) ([(.int (((c0 >>> ((0 : Int32) &&& 31)).toInt8.toInt32).toInt8.toInt32)), (.int (((c0 >>> ((8 : Int32) &&& 31)).toInt8.toInt32).toInt8.toInt32)), .int 0, .int 0] : List Value) (1 : Int32) 2 c1 T116.heap n0 Z117 O117 cv116 g_b_112 (by decide) (by decide) (own_ble rfl) (by decide) (by decide) (own_ble rfl)) hZ (W 99 rfl) (W 76 rfl) (by decide) (by decide)) (g := (mkF m 20 #[.val (.ref a1), .val (.int 1), .val (.int 2), .val (.ref b_112), .val (.int 1)] [.int c1, .int 1, .ref b_112])) rfl (by rw [hml]; rfl) (argsL := [.ref b_112, .int 1, .int c1]) (rest := []) (lenOf pd___BII_V rfl) rfl (by show 2 * 0 + _ ≤ _; exact Nat.le_of_eq rfl) (hB d9_20) (fun _ _ => ⟨rfl, rfl, (by decide : 1 + 0 ≤ _), (by decide : 4 + 0 ≤ _)⟩)
  dsimp only [Pt.U, Pt.locs, Pt.cells, Pt.slots] at X120 l120 y120 z120 st120 hQ120
  subst l120 y120 z120
  obtain ⟨rfl, N120q, K120, f120_0⟩ := hQ120
  have N120 := Fr.app N116 N120q
  have Z121 : n0 ≤ T120.heap.size := Nat.le_trans Z117 K120.1
  have K0_121 : Keep h0 T120.heap [] := K0_117.trans K120 (allS (Or.inr l0_b_112) all0)
  have O121 : Old Z n0 T120.heap := O117.keep K120 (allS g_b_112 all0)
  have cv120 : Arv Z T120.heap b_112 kb_112 .byte (4 : Int32) [(.int (((c0 >>> ((0 : Int32) &&& 31)).toInt8.toInt32).toInt8.toInt32)), (.int (((c0 >>> ((8 : Int32) &&& 31)).toInt8.toInt32).toInt8.toInt32)), (.int (((c1 >>> ((0 : Int32) &&& 31)).toInt8.toInt32).toInt8.toInt32)), (.int (((c1 >>> ((8 : Int32) &&& 31)).toInt8.toInt32).toInt8.toInt32))] (.int 0) := f120_0
  obtain ⟨fs, hr, hrun, hended, hW, hsame⟩ := X120.leave (v := some (.ref b_112)) (fun h => by rw [Bd.returns] at h; cases h)
  refine ⟨_, _, castTop (ef_jdk_52_method_14_code_RII m a1 (0 : Int32) (2 : Int32)) ?_, hrun, hended, _, _, rfl, ?_, ⟨_, rfl⟩, hW, hsame.mono (own_ble rfl) (own_ble rfl)⟩
  · show Steps _ _ _ (s₁.setTop (mkF m 0 #[.val (.ref a1), .val (.int 0), .val (.int 2), .unset, .unset] [])) _
    refine XS.iloadN X0.here hx rfl (hB d9_0) rfl ?_
    refine st112 _ ?_
    show Steps _ _ _ (T112.setTop (mkF m 4 #[.val (.ref a1), .val (.int 0), .val (.int 2), .unset, .unset] [.ref b_112])) _
    refine XS.astoreN X112.here hx rfl (hB d9_4) rfl rfl (l' := #[.val (.ref a1), .val (.int 0), .val (.int 2), .val (.ref b_112), .unset]) rfl ?_
    refine XS.iconst X112.here hx rfl (hB d9_5) ?_
    refine XS.istore X112.here hx rfl (hB d9_6) rfl (l' := #[.val (.ref a1), .val (.int 0), .val (.int 2), .val (.ref b_112), .val (.int 0)]) rfl ?_
    refine XS.iload X112.here hx rfl (hB d9_8) rfl ?_
    refine XS.iloadN X112.here hx rfl (hB d9_10) rfl ?_
    refine XS.icmpNo X112.here hx rfl (hB d9_11) rfl (tlt (by decide : (0 : Int32) < (2 : Int32))).2.1 ?_
    refine XS.aloadN X112.here hx rfl (hB d9_14) rfl rfl ?_
    refine XS.iload X112.here hx rfl (hB d9_15) rfl ?_
    refine XS.aloadN X112.here hx rfl (hB d9_17) rfl rfl ?_
    refine XS.iloadN X112.here hx rfl (hB d9_18) rfl ?_
    refine X112.caload hx (j := (0 : Int32)) (v := (.int c0)) (own_cell rfl Arq115.1) (State.isArrayOf_alike hZ.alike Arq115.2.1) Arq115.2.2 hinq115 hatq115 (g := (mkF m 19 #[.val (.ref a1), .val (.int 0), .val (.int 2), .val (.ref b_112), .val (.int 0)] [.int 0, .ref a1, .int 0, .ref b_112])) rfl rfl (hB d9_19) _ ?_
    refine st116 _ ?_
    show Steps _ _ _ (T116.setTop (mkF m 23 #[.val (.ref a1), .val (.int 0), .val (.int 2), .val (.ref b_112), .val (.int 0)] [])) _
    refine XS.iinc X116.here hx rfl (hB d9_23) rfl (l' := #[.val (.ref a1), .val (.int 1), .val (.int 2), .val (.ref b_112), .val (.int 0)]) rfl ?_
    refine XS.iinc X116.here hx rfl (hB d9_26) rfl (l' := #[.val (.ref a1), .val (.int 1), .val (.int 2), .val (.ref b_112), .val (.int 1)]) rfl ?_
    refine XS.goto X116.here hx rfl (pc0 := 29) (pc' := 8) rfl (hB d9_29) (by decide) (by decide) ?_
    refine XS.iload X116.here hx rfl (hB d9_8) rfl ?_
    refine XS.iloadN X116.here hx rfl (hB d9_10) rfl ?_
    refine XS.icmpNo X116.here hx rfl (hB d9_11) rfl (tlt (by decide : (1 : Int32) < (2 : Int32))).2.1 ?_
    refine XS.aloadN X116.here hx rfl (hB d9_14) rfl rfl ?_
    refine XS.iload X116.here hx rfl (hB d9_15) rfl ?_
    refine XS.aloadN X116.here hx rfl (hB d9_17) rfl rfl ?_
    refine XS.iloadN X116.here hx rfl (hB d9_18) rfl ?_
    refine X116.caload hx (j := (1 : Int32)) (v := (.int c1)) (own_cell rfl Arq119.1) (State.isArrayOf_alike hZ.alike Arq119.2.1) Arq119.2.2 hinq119 hatq119 (g := (mkF m 19 #[.val (.ref a1), .val (.int 1), .val (.int 2), .val (.ref b_112), .val (.int 1)] [.int 1, .ref a1, .int 1, .ref b_112])) rfl rfl (hB d9_19) _ ?_
    refine st120 _ ?_
    show Steps _ _ _ (T120.setTop (mkF m 23 #[.val (.ref a1), .val (.int 1), .val (.int 2), .val (.ref b_112), .val (.int 1)] [])) _
    refine XS.iinc X120.here hx rfl (hB d9_23) rfl (l' := #[.val (.ref a1), .val (.int 2), .val (.int 2), .val (.ref b_112), .val (.int 1)]) rfl ?_
    refine XS.iinc X120.here hx rfl (hB d9_26) rfl (l' := #[.val (.ref a1), .val (.int 2), .val (.int 2), .val (.ref b_112), .val (.int 2)]) rfl ?_
    refine XS.goto X120.here hx rfl (pc0 := 29) (pc' := 8) rfl (hB d9_29) (by decide) (by decide) ?_
    refine XS.iload X120.here hx rfl (hB d9_8) rfl ?_
    refine XS.iloadN X120.here hx rfl (hB d9_10) rfl ?_
    refine XS.icmpYes X120.here hx rfl (pc0 := 11) (pc' := 32) rfl (hB d9_11) rfl (flt (by decide : ¬ ((2 : Int32) < (2 : Int32)))).2.1 (by decide) (by decide) ?_
    refine XS.aloadN X120.here hx rfl (hB d9_32) rfl rfl ?_
    exact retOut X120 hx Bd.returns rfl (Or.inr (Or.inr (Or.inr (Or.inr ⟨rfl, rfl, rfl⟩)))) (hB d9_33) hr
  · show Qtob2 Z G1 fm a1 ka c0 c1 h0 n0 _ T120.heap _
    exact ⟨b_112, kb_112, rfl, N120, K0_121, l0_b_112, cv120⟩
def Qc3L2 (Z : State) (G1 : Int32) (fm : Value) (a1 : Addr) (ka : ClassId) (c0 : Int32) (c1 : Int32) (h0 : Heap) (n0 : Nat) (v : Option Value) (h : Heap) (L : List Loc) : Prop := ∃ b : Addr, ∃ kb : ClassId, v = some (.ref b) ∧ Fr n0 L ∧ Keep h0 h [] ∧ h0.size ≤ b ∧ Arv Z h b kb .byte (2 : Int32) [(.int ((c0.toInt8.toInt32).toInt8.toInt32)), (.int ((c1.toInt8.toInt32).toInt8.toInt32))] (.int 0)
theorem rmc3L2 (l : Launch) (Z : State) (a0 : Array Value) (G1 : Int32) (fm : Value) (hG : Glob Z a0 G1 fm) (ws : List Jvm.Cond) (a1 : Addr) (ka : ClassId) (c0 : Int32) (c1 : Int32) (h0 : Heap) (n0 : Nat) (Z0 : n0 ≤ h0.size) (X00 : Old Z n0 h0) (V_a1 : Arv Z h0 a1 ka .char (2 : Int32) [.int c0, .int c1] (.int 0)) (hl0 : ¬ ((255 : Int32) < c0)) (hl1 : ¬ ((255 : Int32) < c1)) :
    Met l Z h0 y10 jdk_52_method_16_code 6 (some (.array .byte)) ws (Room.mk 1 1 2 18) #[.ref a1, .int 0, .int 2] (Qc3L2 Z G1 fm a1 ka c0 c1 h0 n0) := by
  obtain ⟨hw, O_cs, P_cs, O_as, O_hi, O_lo, O_fm, R_fm⟩ := id hG
  have W := @own_W _ _ hw
  refine own_go "java/lang/StringUTF16" rfl (plainFor_of_name pn_java_lang_StringUTF16) ?_
  intro p e s m below meth c s₁ Bd hx hby hml hown hnm X0 e0 hZ
  have hB := @hb _ _ hby
  have N0 := Fr.nil n0
  obtain ⟨T122, h122, k122, X122, e122, E122, A122, Q122, st122⟩ := newPE X0 hx hZ (W 23 rfl) e0 (g := (mkF m 1 #[.val (.ref a1), .val (.int 0), .val (.int 2), .unset, .unset, .unset] [.int 2])) rfl (hB d10_1) rfl (by decide) (cap := 2) (by decide) (by decide) (by decide) (by decide) (ad := "[B") rfl
  obtain ⟨b122, g122⟩ : ∃ z, z = h0.size := ⟨_, rfl⟩
  rw [← g122] at A122 Q122 st122
  have Z123 : n0 ≤ h122.size := Nat.le_trans Z0 E122.1
  have K0_123 : Keep h0 h122 [] := (Keep.refl h0 []).ext E122
  have O123 : Old Z n0 h122 := X00.ext E122
  have lo_b122 : h0.size ≤ b122 := Nat.le_of_eq g122.symm
  have g_b122 : n0 ≤ b122 := Nat.le_trans Z0 lo_b122
  have l0_b122 : h0.size ≤ b122 := Nat.le_trans (Keep.refl h0 []).1 lo_b122
  have V_b122 : Arv Z h122 b122 k122 .byte (2 : Int32) [.int 0, .int 0] (.int 0) := (Arv.new A122 (by decide)).pad (pad_rep [] (.int 0) 2)
  have f125 := (V_a1.ext E122)
  -- pc 9: java/lang/StringUTF16.compress
  obtain ⟨_, _, ⟨T124, L124, k124, n124⟩, -, X124, ⟨Lc124, hQ124, l124, y124, z124⟩, st124⟩ := Jvm.LawKit.callS X122 hx (y := y6) hown (mvT hZ (W 78 rfl)) (mvT hZ (W 79 rfl)) (mvT hZ (W 76 rfl)) (mvT hZ (W 80 rfl)) (by decide) (backOf (W := 0) (rmc5L2 l Z a0 G1 fm hG [] a1 b122 ka k122 c0 c1 h122 n0 Z123 O123 f125 V_b122 g_b122 (Nat.ne_of_lt (Nat.lt_of_lt_of_le V_a1.lt lo_b122)) (by first | assumption | decide | rfl) (by first | assumption | decide | rfl)) hZ (W 80 rfl) (W 76 rfl) (by decide) (by decide)) (g := (mkF m 9 #[.val (.ref a1), .val (.int 0), .val (.int 2), .val (.ref b122), .unset, .unset] [.int 2, .int 0, .ref b122, .int 0, .ref a1])) rfl (by rw [hml]; rfl) (argsL := [.ref a1, .int 0, .ref b122, .int 0, .int 2]) (rest := []) (lenOf pd___CI_BII_I rfl) rfl (by show 2 * 0 + _ ≤ _; exact Nat.le_of_eq rfl) (hB d10_9) (fun _ _ => ⟨rfl, e122, (by decide : 1 + 0 ≤ _), (by decide : 2 + 0 ≤ _)⟩)
  dsimp only [Pt.U, Pt.locs, Pt.cells, Pt.slots] at X124 l124 y124 z124 st124 hQ124
  subst l124 y124 z124
  obtain ⟨rfl, N124q, K124, f124_0⟩ := hQ124
  have N124 := Fr.app N0 N124q
  have Z126 : n0 ≤ T124.heap.size := Nat.le_trans Z123 K124.1
  have K0_126 : Keep h0 T124.heap [] := K0_123.trans K124 (allS (Or.inr l0_b122) all0)
  have O126 : Old Z n0 T124.heap := O123.keep K124 (allS g_b122 all0)
  obtain ⟨fs, hr, hrun, hended, hW, hsame⟩ := X124.leave (v := some (.ref b122)) (fun h => by rw [Bd.returns] at h; cases h)
  refine ⟨_, _, castTop (ef_jdk_52_method_16_code_RII m a1 (0 : Int32) (2 : Int32)) ?_, hrun, hended, _, _, rfl, ?_, ⟨_, rfl⟩, hW, hsame.mono (own_ble rfl) (own_ble rfl)⟩
  · show Steps _ _ _ (s₁.setTop (mkF m 0 #[.val (.ref a1), .val (.int 0), .val (.int 2), .unset, .unset, .unset] [])) _
    refine XS.iloadN X0.here hx rfl (hB d10_0) rfl ?_
    refine st122 _ ?_
    show Steps _ _ _ (T122.setTop (mkF m 3 #[.val (.ref a1), .val (.int 0), .val (.int 2), .unset, .unset, .unset] [.ref b122])) _
    refine XS.astoreN X122.here hx rfl (hB d10_3) rfl rfl (l' := #[.val (.ref a1), .val (.int 0), .val (.int 2), .val (.ref b122), .unset, .unset]) rfl ?_
    refine XS.aloadN X122.here hx rfl (hB d10_4) rfl rfl ?_
    refine XS.iloadN X122.here hx rfl (hB d10_5) rfl ?_
    refine XS.aloadN X122.here hx rfl (hB d10_6) rfl rfl ?_
    refine XS.iconst X122.here hx rfl (hB d10_7) ?_
    refine XS.iloadN X122.here hx rfl (hB d10_8) rfl ?_
    refine st124 _ ?_
    show Steps _ _ _ (T124.setTop (mkF m 12 #[.val (.ref a1), .val (.int 0), .val (.int 2), .val (.ref b122), .unset, .unset] [.int 2])) _
    refine XS.istore X124.here hx rfl (hB d10_12) rfl (l' := #[.val (.ref a1), .val (.int 0), .val (.int 2), .val (.ref b122), .val (.int 2), .unset]) rfl ?_
    refine XS.iload X124.here hx rfl (hB d10_14) rfl ?_
    refine XS.iloadN X124.here hx rfl (hB d10_16) rfl ?_
    refine XS.icmpYes X124.here hx rfl (pc0 := 17) (pc' := 57) rfl (hB d10_17) rfl (teq (by decide : (2 : Int32) = (2 : Int32))).1 (by decide) (by decide) ?_
    refine XS.aloadN X124.here hx rfl (hB d10_57) rfl rfl ?_
    exact retOut X124 hx Bd.returns rfl (Or.inr (Or.inr (Or.inr (Or.inr ⟨rfl, rfl, rfl⟩)))) (hB d10_58) hr
  · show Qc3L2 Z G1 fm a1 ka c0 c1 h0 n0 _ T124.heap _
    exact ⟨b122, k122, rfl, N124, K0_126, l0_b122, f124_0⟩
def Qc3W2 (Z : State) (G1 : Int32) (fm : Value) (a1 : Addr) (ka : ClassId) (c0 : Int32) (c1 : Int32) (h0 : Heap) (n0 : Nat) (v : Option Value) (h : Heap) (L : List Loc) : Prop := ∃ b : Addr, ∃ kb : ClassId, v = some (.ref b) ∧ Fr n0 L ∧ Keep h0 h [] ∧ h0.size ≤ b ∧ Arv Z h b kb .byte (4 : Int32) [(.int (((c0 >>> ((0 : Int32) &&& 31)).toInt8.toInt32).toInt8.toInt32)), (.int (((c0 >>> ((8 : Int32) &&& 31)).toInt8.toInt32).toInt8.toInt32)), (.int (((c1 >>> ((0 : Int32) &&& 31)).toInt8.toInt32).toInt8.toInt32)), (.int (((c1 >>> ((8 : Int32) &&& 31)).toInt8.toInt32).toInt8.toInt32))] (.int 0)
theorem rmc3W2 (l : Launch) (Z : State) (a0 : Array Value) (G1 : Int32) (fm : Value) (hG : Glob Z a0 G1 fm) (ws : List Jvm.Cond) (a1 : Addr) (ka : ClassId) (c0 : Int32) (c1 : Int32) (h0 : Heap) (n0 : Nat) (Z0 : n0 ≤ h0.size) (X00 : Old Z n0 h0) (V_a1 : Arv Z h0 a1 ka .char (2 : Int32) [.int c0, .int c1] (.int 0)) (hwid : ¬ (¬ ((255 : Int32) < c0) ∧ ¬ ((255 : Int32) < c1))) (hu : ∀ c ∈ ([c0, c1] : List Int32), own_u16 c) :
    Met l Z h0 y10 jdk_52_method_16_code 6 (some (.array .byte)) ws (Room.mk 3 2 6 40) #[.ref a1, .int 0, .int 2] (Qc3W2 Z G1 fm a1 ka c0 c1 h0 n0) := by
  obtain ⟨hw, O_cs, P_cs, O_as, O_hi, O_lo, O_fm, R_fm⟩ := id hG
  have W := @own_W _ _ hw
  refine own_go "java/lang/StringUTF16" rfl (plainFor_of_name pn_java_lang_StringUTF16) ?_
  intro p e s m below meth c s₁ Bd hx hby hml hown hnm X0 e0 hZ
  have hB := @hb _ _ hby
  have N0 := Fr.nil n0
  obtain ⟨T127, h127, k127, X127, e127, E127, A127, Q127, st127⟩ := newPE X0 hx hZ (W 23 rfl) e0 (g := (mkF m 1 #[.val (.ref a1), .val (.int 0), .val (.int 2), .unset, .unset, .unset] [.int 2])) rfl (hB d10_1) rfl (by decide) (cap := 2) (by decide) (by decide) (by decide) (by decide) (ad := "[B") rfl
  obtain ⟨b127, g127⟩ : ∃ z, z = h0.size := ⟨_, rfl⟩
  rw [← g127] at A127 Q127 st127
  have Z128 : n0 ≤ h127.size := Nat.le_trans Z0 E127.1
  have K0_128 : Keep h0 h127 [] := (Keep.refl h0 []).ext E127
  have O128 : Old Z n0 h127 := X00.ext E127
  have lo_b127 : h0.size ≤ b127 := Nat.le_of_eq g127.symm
  have g_b127 : n0 ≤ b127 := Nat.le_trans Z0 lo_b127
  have l0_b127 : h0.size ≤ b127 := Nat.le_trans (Keep.refl h0 []).1 lo_b127
  have V_b127 : Arv Z h127 b127 k127 .byte (2 : Int32) [.int 0, .int 0] (.int 0) := (Arv.new A127 (by decide)).pad (pad_rep [] (.int 0) 2)
  have f130 := (V_a1.ext E127)
  -- pc 9: java/lang/StringUTF16.compress
  obtain ⟨_, _, ⟨T129, L129, k129, n129⟩, -, X129, ⟨Lc129, hQ129, l129, y129, z129⟩, st129⟩ := Jvm.LawKit.callS X127 hx (y := y6) hown (mvT hZ (W 78 rfl)) (mvT hZ (W 79 rfl)) (mvT hZ (W 76 rfl)) (mvT hZ (W 80 rfl)) (by decide) (backOf (W := 0) (rmc5W2 l Z a0 G1 fm hG [] a1 b127 ka k127 c0 c1 h127 n0 Z128 O128 f130 V_b127 g_b127 (Nat.ne_of_lt (Nat.lt_of_lt_of_le V_a1.lt lo_b127)) (by first | assumption | decide | rfl)) hZ (W 80 rfl) (W 76 rfl) (by decide) (by decide)) (g := (mkF m 9 #[.val (.ref a1), .val (.int 0), .val (.int 2), .val (.ref b127), .unset, .unset] [.int 2, .int 0, .ref b127, .int 0, .ref a1])) rfl (by rw [hml]; rfl) (argsL := [.ref a1, .int 0, .ref b127, .int 0, .int 2]) (rest := []) (lenOf pd___CI_BII_I rfl) rfl (by show 2 * 0 + _ ≤ _; exact Nat.le_of_eq rfl) (hB d10_9) (fun _ _ => ⟨rfl, e127, (by decide : 1 + 0 ≤ _), (by decide : 2 + 0 ≤ _)⟩)
  dsimp only [Pt.U, Pt.locs, Pt.cells, Pt.slots] at X129 l129 y129 z129 st129 hQ129
  subst l129 y129 z129
  obtain ⟨j_129, rfl, N129q, K129, f129_0⟩ := hQ129
  have N129 := Fr.app N0 N129q
  have Z131 : n0 ≤ T129.heap.size := Nat.le_trans Z128 K129.1
  have K0_131 : Keep h0 T129.heap [] := K0_128.trans K129 (allS (Or.inr l0_b127) all0)
  have O131 : Old Z n0 T129.heap := O128.keep K129 (allS g_b127 all0)
  have f133 := (f130.keep K129 (ninS (Nat.ne_of_lt (Nat.lt_of_lt_of_le V_a1.lt lo_b127)) nin0))
  -- pc 23: java/lang/StringUTF16.toBytes
  obtain ⟨_, _, ⟨T132, L132, k132, n132⟩, -, X132, ⟨Lc132, hQ132, l132, y132, z132⟩, st132⟩ := Jvm.LawKit.callS X129 hx (y := y9) hown (mvT hZ (W 87 rfl)) (mvT hZ (W 88 rfl)) (mvT hZ (W 76 rfl)) (mvT hZ (W 89 rfl)) (by decide) (backOf (W := 0) (rmtob2 l Z a0 G1 fm hG [] a1 ka c0 c1 T129.heap n0 Z131 O131 f133) hZ (W 89 rfl) (W 76 rfl) (by decide) (by decide)) (g := (mkF m 23 #[.val (.ref a1), .val (.int 0), .val (.int 2), .val (.ref b127), .val (.int j_129), .unset] [.int 2, .int 0, .ref a1])) rfl (by rw [hml]; rfl) (argsL := [.ref a1, .int 0, .int 2]) (rest := []) (lenOf pd___CII__B rfl) rfl (by show 2 * 0 + _ ≤ _; exact Nat.le_of_eq rfl) (hB d10_23) (fun _ _ => ⟨rfl, rfl, (by decide : 1 + 1 ≤ _), (by decide : 2 + 4 ≤ _)⟩)
  dsimp only [Pt.U, Pt.locs, Pt.cells, Pt.slots] at X132 l132 y132 z132 st132 hQ132
  subst l132 y132 z132
  obtain ⟨b_132, kb_132, rfl, N132q, K132, f132_0, f132_1⟩ := hQ132
  have N132 := Fr.app N129 N132q
  have Z134 : n0 ≤ T132.heap.size := Nat.le_trans Z131 K132.1
  have K0_134 : Keep h0 T132.heap [] := K0_131.trans K132 all0
  have O134 : Old Z n0 T132.heap := O131.keep K132 all0
  have lo_b_132 : T129.heap.size ≤ b_132 := f132_0
  have g_b_132 : n0 ≤ b_132 := Nat.le_trans Z131 lo_b_132
  have l0_b_132 : h0.size ≤ b_132 := Nat.le_trans K0_131.1 lo_b_132
  obtain ⟨K_, c_, hi_, hg_, hw_⟩ := id f129_0
  -- pc 32: java/lang/StringUTF16.getChar
  obtain ⟨_, _, ⟨T135, L135, k135, n135⟩, -, X135, ⟨Lc135, hQ135, l135, y135, z135⟩, st135⟩ := Jvm.LawKit.callS X132 hx (y := y0) hown (mvT hZ (W 103 rfl)) (mvT hZ (W 104 rfl)) (mvT hZ (W 76 rfl)) (mvT hZ (W 105 rfl)) (by decide) (backOf (W := 0) (rmgch l Z a0 G1 fm hG [] b_132 kb_132 (4 : Int32) ([(.int (((c0 >>> ((0 : Int32) &&& 31)).toInt8.toInt32).toInt8.toInt32)), (.int (((c0 >>> ((8 : Int32) &&& 31)).toInt8.toInt32).toInt8.toInt32)), (.int (((c1 >>> ((0 : Int32) &&& 31)).toInt8.toInt32).toInt8.toInt32)), (.int (((c1 >>> ((8 : Int32) &&& 31)).toInt8.toInt32).toInt8.toInt32))] : List Value) j_129 ([c0, c1] : List Int32) K_ c_ T132.heap n0 Z134 O134 f132_1 rfl rfl (own_ble rfl) hu hi_ hg_) hZ (W 105 rfl) (W 76 rfl) (by decide) (by decide)) (g := (mkF m 32 #[.val (.ref a1), .val (.int 0), .val (.int 2), .val (.ref b127), .val (.int j_129), .val (.ref b_132)] [.int j_129, .ref b_132])) rfl (by rw [hml]; rfl) (argsL := [.ref b_132, .int j_129]) (rest := []) (lenOf pd___BI_C rfl) rfl (by show 2 * 0 + _ ≤ _; exact Nat.le_of_eq rfl) (hB d10_32) (fun _ _ => ⟨rfl, rfl, (by decide : 2 + 0 ≤ _), (by decide : 6 + 0 ≤ _)⟩)
  dsimp only [Pt.U, Pt.locs, Pt.cells, Pt.slots] at X135 l135 y135 z135 st135 hQ135
  subst l135 y135 z135
  obtain ⟨rfl, N135q, eq135⟩ := hQ135
  have N135 := Fr.app N132 N135q
  obtain ⟨fs, hr, hrun, hended, hW, hsame⟩ := X135.leave (v := some (.ref b_132)) (fun h => by rw [Bd.returns] at h; cases h)
  refine ⟨_, _, castTop (ef_jdk_52_method_16_code_RII m a1 (0 : Int32) (2 : Int32)) ?_, hrun, hended, _, _, rfl, ?_, ⟨_, rfl⟩, hW, hsame.mono (own_ble rfl) (own_ble rfl)⟩
  · show Steps _ _ _ (s₁.setTop (mkF m 0 #[.val (.ref a1), .val (.int 0), .val (.int 2), .unset, .unset, .unset] [])) _
    refine XS.iloadN X0.here hx rfl (hB d10_0) rfl ?_
    refine st127 _ ?_
    show Steps _ _ _ (T127.setTop (mkF m 3 #[.val (.ref a1), .val (.int 0), .val (.int 2), .unset, .unset, .unset] [.ref b127])) _
    refine XS.astoreN X127.here hx rfl (hB d10_3) rfl rfl (l' := #[.val (.ref a1), .val (.int 0), .val (.int 2), .val (.ref b127), .unset, .unset]) rfl ?_
    refine XS.aloadN X127.here hx rfl (hB d10_4) rfl rfl ?_
    refine XS.iloadN X127.here hx rfl (hB d10_5) rfl ?_
    refine XS.aloadN X127.here hx rfl (hB d10_6) rfl rfl ?_
    refine XS.iconst X127.here hx rfl (hB d10_7) ?_
    refine XS.iloadN X127.here hx rfl (hB d10_8) rfl ?_
    refine st129 _ ?_
    show Steps _ _ _ (T129.setTop (mkF m 12 #[.val (.ref a1), .val (.int 0), .val (.int 2), .val (.ref b127), .unset, .unset] [.int j_129])) _
    refine XS.istore X129.here hx rfl (hB d10_12) rfl (l' := #[.val (.ref a1), .val (.int 0), .val (.int 2), .val (.ref b127), .val (.int j_129), .unset]) rfl ?_
    refine XS.iload X129.here hx rfl (hB d10_14) rfl ?_
    refine XS.iloadN X129.here hx rfl (hB d10_16) rfl ?_
    refine XS.icmpNo X129.here hx rfl (hB d10_17) rfl (feq (own_fne (cs := [c0, c1]) (own_ble rfl) f129_0 : ¬ (j_129 = (2 : Int32)))).1 ?_
    refine XS.aloadN X129.here hx rfl (hB d10_20) rfl rfl ?_
    refine XS.iloadN X129.here hx rfl (hB d10_21) rfl ?_
    refine XS.iloadN X129.here hx rfl (hB d10_22) rfl ?_
    refine st132 _ ?_
    show Steps _ _ _ (T132.setTop (mkF m 26 #[.val (.ref a1), .val (.int 0), .val (.int 2), .val (.ref b127), .val (.int j_129), .unset] [.ref b_132])) _
    refine XS.astore X132.here hx rfl (hB d10_26) rfl rfl (l' := #[.val (.ref a1), .val (.int 0), .val (.int 2), .val (.ref b127), .val (.int j_129), .val (.ref b_132)]) rfl ?_
    refine XS.aload X132.here hx rfl (hB d10_28) rfl rfl ?_
    refine XS.iload X132.here hx rfl (hB d10_30) rfl ?_
    refine st135 _ ?_
    show Steps _ _ _ (T135.setTop (mkF m 35 #[.val (.ref a1), .val (.int 0), .val (.int 2), .val (.ref b127), .val (.int j_129), .val (.ref b_132)] [.int c_])) _
    refine XS.sipush X135.here hx rfl (hB d10_35) ?_
    refine XS.icmpYes X135.here hx rfl (pc0 := 38) (pc' := 54) rfl (hB d10_38) rfl (tlt (hw_ : (255 : Int32) < c_)).2.2.1 (by decide) (by decide) ?_
    refine XS.aload X135.here hx rfl (hB d10_54) rfl rfl ?_
    exact retOut X135 hx Bd.returns rfl (Or.inr (Or.inr (Or.inr (Or.inr ⟨rfl, rfl, rfl⟩)))) (hB d10_56) hr
  · show Qc3W2 Z G1 fm a1 ka c0 c1 h0 n0 _ T135.heap _
    rw [eq135]
    exact ⟨b_132, kb_132, rfl, N135, K0_134, l0_b_132, f132_1⟩
def QcfaL2 (Z : State) (G1 : Int32) (fm : Value) (b : Addr) (kb : ClassId) (vs : List Value) (h0 : Heap) (n0 : Nat) (v : Option Value) (h : Heap) (L : List Loc) : Prop := v = some (.int 0) ∧ Fr n0 L ∧ h = h0
theorem rmcfaL2 (l : Launch) (Z : State) (a0 : Array Value) (G1 : Int32) (fm : Value) (hG : Glob Z a0 G1 fm) (ws : List Jvm.Cond) (b : Addr) (kb : ClassId) (vs : List Value) (h0 : Heap) (n0 : Nat) (Z0 : n0 ≤ h0.size) (X00 : Old Z n0 h0) (V_b : Arv Z h0 b kb .byte (2 : Int32) vs (.int 0)) :
    Met l Z h0 y11 jdk_52_method_15_code 2 (some .byte) ws (Room.mk 0 0 0 0) #[.ref b, .int 2] (QcfaL2 Z G1 fm b kb vs h0 n0) := by
  obtain ⟨hw, O_cs, P_cs, O_as, O_hi, O_lo, O_fm, R_fm⟩ := id hG
  have W := @own_W _ _ hw
  refine own_go "java/lang/StringUTF16" rfl (plainFor_of_name pn_java_lang_StringUTF16) ?_
  intro p e s m below meth c s₁ Bd hx hby hml hown hnm X0 e0 hZ
  have hB := @hb _ _ hby
  have N0 := Fr.nil n0
  obtain ⟨clq136, Arq136, qaq136, Sq136, Nq136, Hq136, Gq136⟩ := id V_b
  obtain ⟨fs, hr, hrun, hended, hW, hsame⟩ := X0.leave (v := some (.int 0)) (fun h => by rw [Bd.returns] at h; cases h)
  refine ⟨_, _, castTop (ef_jdk_52_method_15_code_RI m b (2 : Int32)) ?_, hrun, hended, _, _, rfl, ?_, ⟨_, rfl⟩, hW, hsame.mono (own_ble rfl) (own_ble rfl)⟩
  · show Steps _ _ _ (s₁.setTop (mkF m 0 #[.val (.ref b), .val (.int 2)] [])) _
    refine XS.iloadN X0.here hx rfl (hB d11_0) rfl ?_
    refine XS.aloadN X0.here hx rfl (hB d11_1) rfl rfl ?_
    refine X0.arraylength hx (own_cell e0 Arq136.1) (State.isArrayOf_alike hZ.alike Arq136.2.1) (g := (mkF m 2 #[.val (.ref b), .val (.int 2)] [.ref b, .int 2])) rfl rfl (hB d11_2) _ ?_
    rw [len_of Sq136 Nq136]
    refine XS.isub X0.here hx rfl (hB d11_3) rfl ?_
    refine XS.bipush X0.here hx rfl (hB d11_4) ?_
    refine XS.iushr X0.here hx rfl (hB d11_6) rfl ?_
    refine XS.i2b X0.here hx rfl (hB d11_7) rfl ?_
    exact retN X0 hx (t := .byte) Bd.returns (by simp) (hB d11_8) hr
  · show QcfaL2 Z G1 fm b kb vs h0 n0 _ s₁.heap _
    rw [e0]
    exact ⟨rfl, N0, rfl⟩
def QviL2 (Z : State) (G1 : Int32) (fm : Value) (a1 : Addr) (b : Addr) (ka : ClassId) (c0 : Int32) (c1 : Int32) (h0 : Heap) (n0 : Nat) (v : Option Value) (h : Heap) (L : List Loc) : Prop := ∃ t : Addr, ∃ kb : ClassId, v = none ∧ Fr n0 L ∧ Keep h0 h [a1] ∧ Exa Z h a1 "java/lang/String" ∧ Fld Z h a1 "java/lang/String" "coder" "B" (.int 0) ∧ Fld Z h a1 "java/lang/String" "value" "[B" (.ref t) ∧ Arv Z h t kb .byte (2 : Int32) [(.int ((c0.toInt8.toInt32).toInt8.toInt32)), (.int ((c1.toInt8.toInt32).toInt8.toInt32))] (.int 0)
theorem rmviL2 (l : Launch) (Z : State) (a0 : Array Value) (G1 : Int32) (fm : Value) (hG : Glob Z a0 G1 fm) (ws : List Jvm.Cond) (a1 : Addr) (b : Addr) (ka : ClassId) (c0 : Int32) (c1 : Int32) (h0 : Heap) (n0 : Nat) (Z0 : n0 ≤ h0.size) (X00 : Old Z n0 h0) (E_a1 : Exa Z h0 a1 "java/lang/String") (g_a1 : n0 ≤ a1) (F_value_a1 : Fld Z h0 a1 "java/lang/String" "value" "[B" .null) (F_coder_a1 : Fld Z h0 a1 "java/lang/String" "coder" "B" (.int 0)) (V_b : Arv Z h0 b ka .char (2 : Int32) [.int c0, .int c1] (.int 0)) (ne_b_a1 : b ≠ a1) (hl0 : ¬ ((255 : Int32) < c0)) (hl1 : ¬ ((255 : Int32) < c1)) :
    Met l Z h0 y12 jdk_42_method_149_code 6 none ws (Room.mk 2 1 2 35) #[.ref a1, .ref b, .int 0, .int 2, .null] (QviL2 Z G1 fm a1 b ka c0 c1 h0 n0) := by
  obtain ⟨hw, O_cs, P_cs, O_as, O_hi, O_lo, O_fm, R_fm⟩ := id hG
  have W := @own_W _ _ hw
  refine own_go "java/lang/String" rfl (plainFor_of_name pn_java_lang_String) ?_
  intro p e s m below meth c s₁ Bd hx hby hml hown hnm X0 e0 hZ
  have hB := @hb _ _ hby
  have N0 := Fr.nil n0
  obtain ⟨T137, X137, e137, st137⟩ := initO X0 hx hZ hown (W 19 rfl) (W 20 rfl) (W 21 rfl) e0 (g := (mkF m 1 #[.val (.ref a1), .val (.ref b), .val (.int 0), .val (.int 2), .val .null, .unset] [.ref a1])) rfl (by rw [hml]; rfl) rfl (hB d12_1) (by decide) (W := 0) (by show 2 * 0 + _ ≤ _; exact Nat.le_of_eq rfl) (by decide)
  obtain ⟨T138, X138, e138, st138⟩ := getS2 X137 hx hZ hown (host := "") (Or.inl (W 49 rfl)) Via.refl e137 (O_cs.ext X00.2) (g := (mkF m 27 #[.val (.ref a1), .val (.ref b), .val (.int 0), .val (.int 2), .val .null, .unset] [])) rfl (hB d12_27)
  -- pc 36: java/lang/StringUTF16.compress
  obtain ⟨_, _, ⟨T139, L139, k139, n139⟩, -, X139, ⟨Lc139, hQ139, l139, y139, z139⟩, st139⟩ := Jvm.LawKit.callS X138 hx (y := y10) hown (mvT hZ (W 74 rfl)) (mvT hZ (W 75 rfl)) (mvT hZ (W 76 rfl)) (mvT hZ (W 77 rfl)) (by decide) (backOf (W := 0) (rmc3L2 l Z a0 G1 fm hG [] b ka c0 c1 h0 n0 Z0 X00 V_b (by first | assumption | decide | rfl) (by first | assumption | decide | rfl)) hZ (W 77 rfl) (W 76 rfl) (by decide) (by decide)) (g := (mkF m 36 #[.val (.ref a1), .val (.ref b), .val (.int 0), .val (.int 2), .val .null, .unset] [.int 2, .int 0, .ref b])) rfl (by rw [hml]; rfl) (argsL := [.ref b, .int 0, .int 2]) (rest := []) (lenOf pd___CII__B rfl) rfl (by show 2 * 0 + _ ≤ _; exact Nat.le_of_eq rfl) (hB d12_36) (fun _ _ => ⟨rfl, e138, (by decide : 0 + 1 ≤ _), (by decide : 0 + 2 ≤ _)⟩)
  dsimp only [Pt.U, Pt.locs, Pt.cells, Pt.slots] at X139 l139 y139 z139 st139 hQ139
  subst l139 y139 z139
  obtain ⟨b_139, kb_139, rfl, N139q, K139, f139_0, f139_1⟩ := hQ139
  have N139 := Fr.app N0 N139q
  have Z140 : n0 ≤ T139.heap.size := Nat.le_trans Z0 K139.1
  have K0_140 : Keep h0 T139.heap [a1] := (Keep.refl h0 [a1]).trans K139 all0
  have O140 : Old Z n0 T139.heap := X00.keep K139 all0
  have lo_b_139 : h0.size ≤ b_139 := f139_0
  have g_b_139 : n0 ≤ b_139 := Nat.le_trans Z0 lo_b_139
  have l0_b_139 : h0.size ≤ b_139 := Nat.le_trans (Keep.refl h0 [a1]).1 lo_b_139
  -- pc 45: java/lang/StringUTF16.coderFromArrayLen
  obtain ⟨_, _, ⟨T141, L141, k141, n141⟩, -, X141, ⟨Lc141, hQ141, l141, y141, z141⟩, st141⟩ := Jvm.LawKit.callS X139 hx (y := y11) hown (mvT hZ (W 81 rfl)) (mvT hZ (W 82 rfl)) (mvT hZ (W 76 rfl)) (mvT hZ (W 83 rfl)) (by decide) (backOf (W := 1) (rmcfaL2 l Z a0 G1 fm hG [] b_139 kb_139 ([(.int ((c0.toInt8.toInt32).toInt8.toInt32)), (.int ((c1.toInt8.toInt32).toInt8.toInt32))] : List Value) T139.heap n0 Z140 O140 f139_1) hZ (W 83 rfl) (W 76 rfl) (by decide) (by decide)) (g := (mkF m 45 #[.val (.ref a1), .val (.ref b), .val (.int 0), .val (.int 2), .val .null, .val (.ref b_139)] [.int 2, .ref b_139, .ref a1])) rfl (by rw [hml]; rfl) (argsL := [.ref b_139, .int 2]) (rest := [.ref a1]) (lenOf pd___BI_B rfl) rfl (by show 2 * 0 + _ ≤ _; exact Nat.le_of_eq rfl) (hB d12_45) (fun _ _ => ⟨rfl, rfl, (by decide : 1 + 0 ≤ _), (by decide : 2 + 0 ≤ _)⟩)
  dsimp only [Pt.U, Pt.locs, Pt.cells, Pt.slots] at X141 l141 y141 z141 st141 hQ141
  subst l141 y141 z141
  obtain ⟨rfl, N141q, eq141⟩ := hQ141
  have N141 := Fr.app N139 N141q
  have f142 := (E_a1.keep K139)
  have f143 := (F_coder_a1.keep K139 nin0)
  obtain ⟨T144, h144, X144, e144, W144, st144⟩ := putF X141 hx hZ hown (host := "") (Or.inl (W 29 rfl)) Via.refl eq141 f143 f142 (Or.inr ⟨(W 25 rfl), rfl, hnm⟩) (W 9 rfl) (ty := .byte) (by decide) rfl rfl (g := (mkF m 48 #[.val (.ref a1), .val (.ref b), .val (.int 0), .val (.int 2), .val .null, .val (.ref b_139)] [.int 0, .ref a1])) rfl rfl (hB d12_48)
  have Fw144 := f143.same W144
  have Z145 : n0 ≤ h144.size := Nat.le_trans Z140 (Keep.of_wr W144).1
  have K0_145 : Keep h0 h144 [a1] := K0_140.wr W144 (Or.inl (List.mem_of_getElem? (i := 0) rfl))
  have O145 : Old Z n0 h144 := O140.wr W144 g_a1
  have N144 := Fr.snoc X144 N141 g_a1
  have f146 := (f142.wr W144)
  have f147 := ((F_value_a1.keep K139 nin0).other W144 (Or.inr (slot_ne (Or.inr (W 24 rfl)) (Or.inr (W 25 rfl)) (by decide) (t := (.array .byte)) (t' := .byte) (by decide) (by decide))))
  obtain ⟨T148, h148, X148, e148, W148, st148⟩ := putF X144 hx hZ hown (host := "") (Or.inl (W 28 rfl)) Via.refl e144 f147 f146 (Or.inr ⟨(W 24 rfl), rfl, hnm⟩) (W 9 rfl) (ty := (.array .byte)) (by decide) rfl rfl (g := (mkF m 54 #[.val (.ref a1), .val (.ref b), .val (.int 0), .val (.int 2), .val .null, .val (.ref b_139)] [.ref b_139, .ref a1])) rfl rfl (hB d12_54)
  have Fw148 := f147.same W148
  have Z149 : n0 ≤ h148.size := Nat.le_trans Z145 (Keep.of_wr W148).1
  have K0_149 : Keep h0 h148 [a1] := K0_145.wr W148 (Or.inl (List.mem_of_getElem? (i := 0) rfl))
  have O149 : Old Z n0 h148 := O145.wr W148 g_a1
  have N148 := Fr.snoc X148 N144 g_a1
  have f150 := (f146.wr W148)
  have f151 := (Fw144.other W148 (Or.inr (slot_ne (Or.inr (W 25 rfl)) (Or.inr (W 24 rfl)) (by decide) (t := .byte) (t' := (.array .byte)) (by decide) (by decide))))
  have f152 := ((f139_1.other W144 (Ne.symm (Nat.ne_of_lt (Nat.lt_of_lt_of_le E_a1.lt lo_b_139)))).other W148 (Ne.symm (Nat.ne_of_lt (Nat.lt_of_lt_of_le E_a1.lt lo_b_139))))
  obtain ⟨fs, hr, hrun, hended, hW, hsame⟩ := X148.leave (v := none) (fun _ => rfl)
  refine ⟨_, _, castTop (ef_jdk_42_method_149_code_RRIIN m a1 b (0 : Int32) (2 : Int32)) ?_, hrun, hended, _, _, rfl, ?_, ⟨_, rfl⟩, hW, hsame.mono (own_ble rfl) (own_ble rfl)⟩
  · show Steps _ _ _ (s₁.setTop (mkF m 0 #[.val (.ref a1), .val (.ref b), .val (.int 0), .val (.int 2), .val .null, .unset] [])) _
    refine XS.aloadN X0.here hx rfl (hB d12_0) rfl rfl ?_
    refine st137 _ ?_
    show Steps _ _ _ (T137.setTop (mkF m 4 #[.val (.ref a1), .val (.ref b), .val (.int 0), .val (.int 2), .val .null, .unset] [])) _
    refine XS.iloadN X137.here hx rfl (hB d12_4) rfl ?_
    refine XS.ifYes X137.here hx rfl (pc0 := 5) (pc' := 27) rfl (hB d12_5) rfl ((if0 _ _).trans (feq (by decide : ¬ ((2 : Int32) = (0 : Int32)))).2) (by decide) (by decide) ?_
    refine st138 _ ?_
    show Steps _ _ _ (T138.setTop (mkF m 30 #[.val (.ref a1), .val (.ref b), .val (.int 0), .val (.int 2), .val .null, .unset] [.int G1])) _
    refine XS.ifNo X138.here hx rfl (hB d12_30) rfl ((if0 _ _).trans (feq (P_cs : ¬ (G1 = (0 : Int32)))).1) ?_
    refine XS.aloadN X138.here hx rfl (hB d12_33) rfl rfl ?_
    refine XS.iloadN X138.here hx rfl (hB d12_34) rfl ?_
    refine XS.iloadN X138.here hx rfl (hB d12_35) rfl ?_
    refine st139 _ ?_
    show Steps _ _ _ (T139.setTop (mkF m 39 #[.val (.ref a1), .val (.ref b), .val (.int 0), .val (.int 2), .val .null, .unset] [.ref b_139])) _
    refine XS.astore X139.here hx rfl (hB d12_39) rfl rfl (l' := #[.val (.ref a1), .val (.ref b), .val (.int 0), .val (.int 2), .val .null, .val (.ref b_139)]) rfl ?_
    refine XS.aloadN X139.here hx rfl (hB d12_41) rfl rfl ?_
    refine XS.aload X139.here hx rfl (hB d12_42) rfl rfl ?_
    refine XS.iloadN X139.here hx rfl (hB d12_44) rfl ?_
    refine st141 _ ?_
    show Steps _ _ _ (T141.setTop (mkF m 48 #[.val (.ref a1), .val (.ref b), .val (.int 0), .val (.int 2), .val .null, .val (.ref b_139)] [.int 0, .ref a1])) _
    refine st144 _ ?_
    show Steps _ _ _ (T144.setTop (mkF m 51 #[.val (.ref a1), .val (.ref b), .val (.int 0), .val (.int 2), .val .null, .val (.ref b_139)] [])) _
    refine XS.aloadN X144.here hx rfl (hB d12_51) rfl rfl ?_
    refine XS.aload X144.here hx rfl (hB d12_52) rfl rfl ?_
    refine st148 _ ?_
    show Steps _ _ _ (T148.setTop (mkF m 57 #[.val (.ref a1), .val (.ref b), .val (.int 0), .val (.int 2), .val .null, .val (.ref b_139)] [])) _
    exact X148.returnOut hx Bd.returns (hB d12_57) hr
  · show QviL2 Z G1 fm a1 b ka c0 c1 h0 n0 _ T148.heap _
    rw [e148]
    exact ⟨b_139, kb_139, rfl, N148, K0_149, f150, f151, Fw148, f152⟩
def QcfaW2 (Z : State) (G1 : Int32) (fm : Value) (b : Addr) (kb : ClassId) (vs : List Value) (h0 : Heap) (n0 : Nat) (v : Option Value) (h : Heap) (L : List Loc) : Prop := v = some (.int 1) ∧ Fr n0 L ∧ h = h0
theorem rmcfaW2 (l : Launch) (Z : State) (a0 : Array Value) (G1 : Int32) (fm : Value) (hG : Glob Z a0 G1 fm) (ws : List Jvm.Cond) (b : Addr) (kb : ClassId) (vs : List Value) (h0 : Heap) (n0 : Nat) (Z0 : n0 ≤ h0.size) (X00 : Old Z n0 h0) (V_b : Arv Z h0 b kb .byte (4 : Int32) vs (.int 0)) :
    Met l Z h0 y11 jdk_52_method_15_code 2 (some .byte) ws (Room.mk 0 0 0 0) #[.ref b, .int 2] (QcfaW2 Z G1 fm b kb vs h0 n0) := by
  obtain ⟨hw, O_cs, P_cs, O_as, O_hi, O_lo, O_fm, R_fm⟩ := id hG
  have W := @own_W _ _ hw
  refine own_go "java/lang/StringUTF16" rfl (plainFor_of_name pn_java_lang_StringUTF16) ?_
  intro p e s m below meth c s₁ Bd hx hby hml hown hnm X0 e0 hZ
  have hB := @hb _ _ hby
  have N0 := Fr.nil n0
  obtain ⟨clq156, Arq156, qaq156, Sq156, Nq156, Hq156, Gq156⟩ := id V_b
  obtain ⟨fs, hr, hrun, hended, hW, hsame⟩ := X0.leave (v := some (.int 1)) (fun h => by rw [Bd.returns] at h; cases h)
  refine ⟨_, _, castTop (ef_jdk_52_method_15_code_RI m b (2 : Int32)) ?_, hrun, hended, _, _, rfl, ?_, ⟨_, rfl⟩, hW, hsame.mono (own_ble rfl) (own_ble rfl)⟩
  · show Steps _ _ _ (s₁.setTop (mkF m 0 #[.val (.ref b), .val (.int 2)] [])) _
    refine XS.iloadN X0.here hx rfl (hB d11_0) rfl ?_
    refine XS.aloadN X0.here hx rfl (hB d11_1) rfl rfl ?_
    refine X0.arraylength hx (own_cell e0 Arq156.1) (State.isArrayOf_alike hZ.alike Arq156.2.1) (g := (mkF m 2 #[.val (.ref b), .val (.int 2)] [.ref b, .int 2])) rfl rfl (hB d11_2) _ ?_
    rw [len_of Sq156 Nq156]
    refine XS.isub X0.here hx rfl (hB d11_3) rfl ?_
    refine XS.bipush X0.here hx rfl (hB d11_4) ?_
    refine XS.iushr X0.here hx rfl (hB d11_6) rfl ?_
    refine XS.i2b X0.here hx rfl (hB d11_7) rfl ?_
    exact retN X0 hx (t := .byte) Bd.returns (by simp) (hB d11_8) hr
  · show QcfaW2 Z G1 fm b kb vs h0 n0 _ s₁.heap _
    rw [e0]
    exact ⟨rfl, N0, rfl⟩
def QviW2 (Z : State) (G1 : Int32) (fm : Value) (a1 : Addr) (b : Addr) (ka : ClassId) (c0 : Int32) (c1 : Int32) (h0 : Heap) (n0 : Nat) (v : Option Value) (h : Heap) (L : List Loc) : Prop := ∃ t : Addr, ∃ kb : ClassId, v = none ∧ Fr n0 L ∧ Keep h0 h [a1] ∧ Exa Z h a1 "java/lang/String" ∧ Fld Z h a1 "java/lang/String" "coder" "B" (.int 1) ∧ Fld Z h a1 "java/lang/String" "value" "[B" (.ref t) ∧ Arv Z h t kb .byte (4 : Int32) [(.int (((c0 >>> ((0 : Int32) &&& 31)).toInt8.toInt32).toInt8.toInt32)), (.int (((c0 >>> ((8 : Int32) &&& 31)).toInt8.toInt32).toInt8.toInt32)), (.int (((c1 >>> ((0 : Int32) &&& 31)).toInt8.toInt32).toInt8.toInt32)), (.int (((c1 >>> ((8 : Int32) &&& 31)).toInt8.toInt32).toInt8.toInt32))] (.int 0)
theorem rmviW2 (l : Launch) (Z : State) (a0 : Array Value) (G1 : Int32) (fm : Value) (hG : Glob Z a0 G1 fm) (ws : List Jvm.Cond) (a1 : Addr) (b : Addr) (ka : ClassId) (c0 : Int32) (c1 : Int32) (h0 : Heap) (n0 : Nat) (Z0 : n0 ≤ h0.size) (X00 : Old Z n0 h0) (E_a1 : Exa Z h0 a1 "java/lang/String") (g_a1 : n0 ≤ a1) (F_value_a1 : Fld Z h0 a1 "java/lang/String" "value" "[B" .null) (F_coder_a1 : Fld Z h0 a1 "java/lang/String" "coder" "B" (.int 0)) (V_b : Arv Z h0 b ka .char (2 : Int32) [.int c0, .int c1] (.int 0)) (ne_b_a1 : b ≠ a1) (hwid : ¬ (¬ ((255 : Int32) < c0) ∧ ¬ ((255 : Int32) < c1))) (hu : ∀ c ∈ ([c0, c1] : List Int32), own_u16 c) :
    Met l Z h0 y12 jdk_42_method_149_code 6 none ws (Room.mk 4 2 6 57) #[.ref a1, .ref b, .int 0, .int 2, .null] (QviW2 Z G1 fm a1 b ka c0 c1 h0 n0) := by
  obtain ⟨hw, O_cs, P_cs, O_as, O_hi, O_lo, O_fm, R_fm⟩ := id hG
  have W := @own_W _ _ hw
  refine own_go "java/lang/String" rfl (plainFor_of_name pn_java_lang_String) ?_
  intro p e s m below meth c s₁ Bd hx hby hml hown hnm X0 e0 hZ
  have hB := @hb _ _ hby
  have N0 := Fr.nil n0
  obtain ⟨T157, X157, e157, st157⟩ := initO X0 hx hZ hown (W 19 rfl) (W 20 rfl) (W 21 rfl) e0 (g := (mkF m 1 #[.val (.ref a1), .val (.ref b), .val (.int 0), .val (.int 2), .val .null, .unset] [.ref a1])) rfl (by rw [hml]; rfl) rfl (hB d12_1) (by decide) (W := 0) (by show 2 * 0 + _ ≤ _; exact Nat.le_of_eq rfl) (by decide)
  obtain ⟨T158, X158, e158, st158⟩ := getS2 X157 hx hZ hown (host := "") (Or.inl (W 49 rfl)) Via.refl e157 (O_cs.ext X00.2) (g := (mkF m 27 #[.val (.ref a1), .val (.ref b), .val (.int 0), .val (.int 2), .val .null, .unset] [])) rfl (hB d12_27)
  -- pc 36: java/lang/StringUTF16.compress
  obtain ⟨_, _, ⟨T159, L159, k159, n159⟩, -, X159, ⟨Lc159, hQ159, l159, y159, z159⟩, st159⟩ := Jvm.LawKit.callS X158 hx (y := y10) hown (mvT hZ (W 74 rfl)) (mvT hZ (W 75 rfl)) (mvT hZ (W 76 rfl)) (mvT hZ (W 77 rfl)) (by decide) (backOf (W := 0) (rmc3W2 l Z a0 G1 fm hG [] b ka c0 c1 h0 n0 Z0 X00 V_b (by first | assumption | decide | rfl) (by first | assumption | decide | rfl)) hZ (W 77 rfl) (W 76 rfl) (by decide) (by decide)) (g := (mkF m 36 #[.val (.ref a1), .val (.ref b), .val (.int 0), .val (.int 2), .val .null, .unset] [.int 2, .int 0, .ref b])) rfl (by rw [hml]; rfl) (argsL := [.ref b, .int 0, .int 2]) (rest := []) (lenOf pd___CII__B rfl) rfl (by show 2 * 0 + _ ≤ _; exact Nat.le_of_eq rfl) (hB d12_36) (fun _ _ => ⟨rfl, e158, (by decide : 0 + 2 ≤ _), (by decide : 0 + 6 ≤ _)⟩)
  dsimp only [Pt.U, Pt.locs, Pt.cells, Pt.slots] at X159 l159 y159 z159 st159 hQ159
  subst l159 y159 z159
  obtain ⟨b_159, kb_159, rfl, N159q, K159, f159_0, f159_1⟩ := hQ159
  have N159 := Fr.app N0 N159q
  have Z160 : n0 ≤ T159.heap.size := Nat.le_trans Z0 K159.1
  have K0_160 : Keep h0 T159.heap [a1] := (Keep.refl h0 [a1]).trans K159 all0
  have O160 : Old Z n0 T159.heap := X00.keep K159 all0
  have lo_b_159 : h0.size ≤ b_159 := f159_0
  have g_b_159 : n0 ≤ b_159 := Nat.le_trans Z0 lo_b_159
  have l0_b_159 : h0.size ≤ b_159 := Nat.le_trans (Keep.refl h0 [a1]).1 lo_b_159
  -- pc 45: java/lang/StringUTF16.coderFromArrayLen
  obtain ⟨_, _, ⟨T161, L161, k161, n161⟩, -, X161, ⟨Lc161, hQ161, l161, y161, z161⟩, st161⟩ := Jvm.LawKit.callS X159 hx (y := y11) hown (mvT hZ (W 81 rfl)) (mvT hZ (W 82 rfl)) (mvT hZ (W 76 rfl)) (mvT hZ (W 83 rfl)) (by decide) (backOf (W := 1) (rmcfaW2 l Z a0 G1 fm hG [] b_159 kb_159 ([(.int (((c0 >>> ((0 : Int32) &&& 31)).toInt8.toInt32).toInt8.toInt32)), (.int (((c0 >>> ((8 : Int32) &&& 31)).toInt8.toInt32).toInt8.toInt32)), (.int (((c1 >>> ((0 : Int32) &&& 31)).toInt8.toInt32).toInt8.toInt32)), (.int (((c1 >>> ((8 : Int32) &&& 31)).toInt8.toInt32).toInt8.toInt32))] : List Value) T159.heap n0 Z160 O160 f159_1) hZ (W 83 rfl) (W 76 rfl) (by decide) (by decide)) (g := (mkF m 45 #[.val (.ref a1), .val (.ref b), .val (.int 0), .val (.int 2), .val .null, .val (.ref b_159)] [.int 2, .ref b_159, .ref a1])) rfl (by rw [hml]; rfl) (argsL := [.ref b_159, .int 2]) (rest := [.ref a1]) (lenOf pd___BI_B rfl) rfl (by show 2 * 0 + _ ≤ _; exact Nat.le_of_eq rfl) (hB d12_45) (fun _ _ => ⟨rfl, rfl, (by decide : 2 + 0 ≤ _), (by decide : 6 + 0 ≤ _)⟩)
  dsimp only [Pt.U, Pt.locs, Pt.cells, Pt.slots] at X161 l161 y161 z161 st161 hQ161
  subst l161 y161 z161
  obtain ⟨rfl, N161q, eq161⟩ := hQ161
  have N161 := Fr.app N159 N161q
  have f162 := (E_a1.keep K159)
  have f163 := (F_coder_a1.keep K159 nin0)
  obtain ⟨T164, h164, X164, e164, W164, st164⟩ := putF X161 hx hZ hown (host := "") (Or.inl (W 29 rfl)) Via.refl eq161 f163 f162 (Or.inr ⟨(W 25 rfl), rfl, hnm⟩) (W 9 rfl) (ty := .byte) (by decide) rfl rfl (g := (mkF m 48 #[.val (.ref a1), .val (.ref b), .val (.int 0), .val (.int 2), .val .null, .val (.ref b_159)] [.int 1, .ref a1])) rfl rfl (hB d12_48)
  have Fw164 := f163.same W164
  have Z165 : n0 ≤ h164.size := Nat.le_trans Z160 (Keep.of_wr W164).1
  have K0_165 : Keep h0 h164 [a1] := K0_160.wr W164 (Or.inl (List.mem_of_getElem? (i := 0) rfl))
  have O165 : Old Z n0 h164 := O160.wr W164 g_a1
  have N164 := Fr.snoc X164 N161 g_a1
  have f166 := (f162.wr W164)
  have f167 := ((F_value_a1.keep K159 nin0).other W164 (Or.inr (slot_ne (Or.inr (W 24 rfl)) (Or.inr (W 25 rfl)) (by decide) (t := (.array .byte)) (t' := .byte) (by decide) (by decide))))
  obtain ⟨T168, h168, X168, e168, W168, st168⟩ := putF X164 hx hZ hown (host := "") (Or.inl (W 28 rfl)) Via.refl e164 f167 f166 (Or.inr ⟨(W 24 rfl), rfl, hnm⟩) (W 9 rfl) (ty := (.array .byte)) (by decide) rfl rfl (g := (mkF m 54 #[.val (.ref a1), .val (.ref b), .val (.int 0), .val (.int 2), .val .null, .val (.ref b_159)] [.ref b_159, .ref a1])) rfl rfl (hB d12_54)
  have Fw168 := f167.same W168
  have Z169 : n0 ≤ h168.size := Nat.le_trans Z165 (Keep.of_wr W168).1
  have K0_169 : Keep h0 h168 [a1] := K0_165.wr W168 (Or.inl (List.mem_of_getElem? (i := 0) rfl))
  have O169 : Old Z n0 h168 := O165.wr W168 g_a1
  have N168 := Fr.snoc X168 N164 g_a1
  have f170 := (f166.wr W168)
  have f171 := (Fw164.other W168 (Or.inr (slot_ne (Or.inr (W 25 rfl)) (Or.inr (W 24 rfl)) (by decide) (t := .byte) (t' := (.array .byte)) (by decide) (by decide))))
  have f172 := ((f159_1.other W164 (Ne.symm (Nat.ne_of_lt (Nat.lt_of_lt_of_le E_a1.lt lo_b_159)))).other W168 (Ne.symm (Nat.ne_of_lt (Nat.lt_of_lt_of_le E_a1.lt lo_b_159))))
  obtain ⟨fs, hr, hrun, hended, hW, hsame⟩ := X168.leave (v := none) (fun _ => rfl)
  refine ⟨_, _, castTop (ef_jdk_42_method_149_code_RRIIN m a1 b (0 : Int32) (2 : Int32)) ?_, hrun, hended, _, _, rfl, ?_, ⟨_, rfl⟩, hW, hsame.mono (own_ble rfl) (own_ble rfl)⟩
  · show Steps _ _ _ (s₁.setTop (mkF m 0 #[.val (.ref a1), .val (.ref b), .val (.int 0), .val (.int 2), .val .null, .unset] [])) _
    refine XS.aloadN X0.here hx rfl (hB d12_0) rfl rfl ?_
    refine st157 _ ?_
    show Steps _ _ _ (T157.setTop (mkF m 4 #[.val (.ref a1), .val (.ref b), .val (.int 0), .val (.int 2), .val .null, .unset] [])) _
    refine XS.iloadN X157.here hx rfl (hB d12_4) rfl ?_
    refine XS.ifYes X157.here hx rfl (pc0 := 5) (pc' := 27) rfl (hB d12_5) rfl ((if0 _ _).trans (feq (by decide : ¬ ((2 : Int32) = (0 : Int32)))).2) (by decide) (by decide) ?_
    refine st158 _ ?_
    show Steps _ _ _ (T158.setTop (mkF m 30 #[.val (.ref a1), .val (.ref b), .val (.int 0), .val (.int 2), .val .null, .unset] [.int G1])) _
    refine XS.ifNo X158.here hx rfl (hB d12_30) rfl ((if0 _ _).trans (feq (P_cs : ¬ (G1 = (0 : Int32)))).1) ?_
    refine XS.aloadN X158.here hx rfl (hB d12_33) rfl rfl ?_
    refine XS.iloadN X158.here hx rfl (hB d12_34) rfl ?_
    refine XS.iloadN X158.here hx rfl (hB d12_35) rfl ?_
    refine st159 _ ?_
    show Steps _ _ _ (T159.setTop (mkF m 39 #[.val (.ref a1), .val (.ref b), .val (.int 0), .val (.int 2), .val .null, .unset] [.ref b_159])) _
    refine XS.astore X159.here hx rfl (hB d12_39) rfl rfl (l' := #[.val (.ref a1), .val (.ref b), .val (.int 0), .val (.int 2), .val .null, .val (.ref b_159)]) rfl ?_
    refine XS.aloadN X159.here hx rfl (hB d12_41) rfl rfl ?_
    refine XS.aload X159.here hx rfl (hB d12_42) rfl rfl ?_
    refine XS.iloadN X159.here hx rfl (hB d12_44) rfl ?_
    refine st161 _ ?_
    show Steps _ _ _ (T161.setTop (mkF m 48 #[.val (.ref a1), .val (.ref b), .val (.int 0), .val (.int 2), .val .null, .val (.ref b_159)] [.int 1, .ref a1])) _
    refine st164 _ ?_
    show Steps _ _ _ (T164.setTop (mkF m 51 #[.val (.ref a1), .val (.ref b), .val (.int 0), .val (.int 2), .val .null, .val (.ref b_159)] [])) _
    refine XS.aloadN X164.here hx rfl (hB d12_51) rfl rfl ?_
    refine XS.aload X164.here hx rfl (hB d12_52) rfl rfl ?_
    refine st168 _ ?_
    show Steps _ _ _ (T168.setTop (mkF m 57 #[.val (.ref a1), .val (.ref b), .val (.int 0), .val (.int 2), .val .null, .val (.ref b_159)] [])) _
    exact X168.returnOut hx Bd.returns (hB d12_57) hr
  · show QviW2 Z G1 fm a1 b ka c0 c1 h0 n0 _ T168.heap _
    rw [e168]
    exact ⟨b_159, kb_159, rfl, N168, K0_169, f170, f171, Fw168, f172⟩
theorem own_all2 {P : Int32 → Prop} {c0 : Int32} {c1 : Int32} (h0 : P c0) (h1 : P c1) : ∀ c ∈ ([c0, c1] : List Int32), P c := by
  intro c hc
  simp only [List.mem_cons, List.not_mem_nil, or_false] at hc
  rcases hc with rfl | rfl <;> assumption
def Qini2 (Z : State) (G1 : Int32) (fm : Value) (a1 : Addr) (b : Addr) (ka : ClassId) (c0 : Int32) (c1 : Int32) (h0 : Heap) (n0 : Nat) (v : Option Value) (h : Heap) (L : List Loc) : Prop := ∃ t : Addr, ∃ kb : ClassId, ∃ cd : Int32, ∃ z : Int32, ∃ vs : List Value, v = none ∧ Fr n0 L ∧ Keep h0 h [a1] ∧ Exa Z h a1 "java/lang/String" ∧ Fld Z h a1 "java/lang/String" "coder" "B" (.int cd) ∧ Fld Z h a1 "java/lang/String" "value" "[B" (.ref t) ∧ Arv Z h t kb .byte z vs (.int 0) ∧ own_str cd z vs [c0, c1]
theorem rmini2_L (l : Launch) (Z : State) (a0 : Array Value) (G1 : Int32) (fm : Value) (hG : Glob Z a0 G1 fm) (ws : List Jvm.Cond) (a1 : Addr) (b : Addr) (ka : ClassId) (c0 : Int32) (c1 : Int32) (h0 : Heap) (n0 : Nat) (Z0 : n0 ≤ h0.size) (X00 : Old Z n0 h0) (E_a1 : Exa Z h0 a1 "java/lang/String") (g_a1 : n0 ≤ a1) (F_value_a1 : Fld Z h0 a1 "java/lang/String" "value" "[B" .null) (F_coder_a1 : Fld Z h0 a1 "java/lang/String" "coder" "B" (.int 0)) (V_b : Arv Z h0 b ka .char (2 : Int32) [.int c0, .int c1] (.int 0)) (ne_b_a1 : b ≠ a1) (hl0 : ¬ ((255 : Int32) < c0)) (hl1 : ¬ ((255 : Int32) < c1)) :
    Met l Z h0 y13 jdk_42_method_3_code 2 none ws (Room.mk 5 2 6 74) #[.ref a1, .ref b] (Qini2 Z G1 fm a1 b ka c0 c1 h0 n0) := by
  obtain ⟨hw, O_cs, P_cs, O_as, O_hi, O_lo, O_fm, R_fm⟩ := id hG
  have W := @own_W _ _ hw
  refine own_go "java/lang/String" rfl (plainFor_of_name pn_java_lang_String) ?_
  intro p e s m below meth c s₁ Bd hx hby hml hown hnm X0 e0 hZ
  have hB := @hb _ _ hby
  have N0 := Fr.nil n0
  obtain ⟨clq153, Arq153, qaq153, Sq153, Nq153, Hq153, Gq153⟩ := id V_b
  -- pc 6: java/lang/String.<init>
  obtain ⟨_, _, ⟨T154, L154, k154, n154⟩, -, X154, ⟨Lc154, hQ154, l154, y154, z154⟩, st154⟩ := X0.specialBack hx (y := y12) rfl hown (mvT hZ (W 15 rfl)) (mvT hZ (W 16 rfl)) (mvT hZ (W 18 rfl)) (by decide) (backOf (W := 0) (rmviL2 l Z a0 G1 fm hG [] a1 b ka c0 c1 h0 n0 Z0 X00 E_a1 g_a1 F_value_a1 F_coder_a1 V_b ne_b_a1 (by first | assumption | decide | rfl) (by first | assumption | decide | rfl)) hZ (W 18 rfl) (W 10 rfl) (by decide) (by decide)) (g := (mkF m 6 #[.val (.ref a1), .val (.ref b)] [.null, .int 2, .int 0, .ref b, .ref a1])) rfl (by rw [hml]; rfl) (Steps.refl _) (a := a1) (argsL := [.ref b, .int 0, .int 2, .null]) (rest := []) (lenOf pd___CIILjava_lang_Void__V rfl) rfl (by show 2 * 0 + _ ≤ _; exact Nat.le_of_eq rfl) (hB d13_6) (fun _ _ => ⟨rfl, e0, (by decide : 0 + 1 ≤ _), (by decide : 0 + 2 ≤ _)⟩)
  dsimp only [Pt.U, Pt.locs, Pt.cells, Pt.slots] at X154 l154 y154 z154 st154 hQ154
  subst l154 y154 z154
  obtain ⟨t_154, kb_154, rfl, N154q, K154, f154_0, f154_1, f154_2, f154_3⟩ := hQ154
  have N154 := Fr.app N0 N154q
  have Z155 : n0 ≤ T154.heap.size := Nat.le_trans Z0 K154.1
  have K0_155 : Keep h0 T154.heap [a1] := (Keep.refl h0 [a1]).trans K154 (allS (Or.inl (List.mem_of_getElem? (i := 0) rfl)) all0)
  have O155 : Old Z n0 T154.heap := X00.keep K154 (allS g_a1 all0)
  obtain ⟨fs, hr, hrun, hended, hW, hsame⟩ := X154.leave (v := none) (fun _ => rfl)
  refine ⟨_, _, castTop (ef_jdk_42_method_3_code_RR m a1 b) ?_, hrun, hended, _, _, rfl, ?_, ⟨_, rfl⟩, hW, hsame.mono (own_ble rfl) (own_ble rfl)⟩
  · show Steps _ _ _ (s₁.setTop (mkF m 0 #[.val (.ref a1), .val (.ref b)] [])) _
    refine XS.aloadN X0.here hx rfl (hB d13_0) rfl rfl ?_
    refine XS.aloadN X0.here hx rfl (hB d13_1) rfl rfl ?_
    refine XS.iconst X0.here hx rfl (hB d13_2) ?_
    refine XS.aloadN X0.here hx rfl (hB d13_3) rfl rfl ?_
    refine X0.arraylength hx (own_cell e0 Arq153.1) (State.isArrayOf_alike hZ.alike Arq153.2.1) (g := (mkF m 4 #[.val (.ref a1), .val (.ref b)] [.ref b, .int 0, .ref b, .ref a1])) rfl rfl (hB d13_4) _ ?_
    rw [len_of Sq153 Nq153]
    refine XS.aconstNull X0.here hx rfl (hB d13_5) ?_
    refine st154.trans ?_
    show Steps _ _ _ (T154.setTop (mkF m 9 #[.val (.ref a1), .val (.ref b)] [])) _
    exact X154.returnOut hx Bd.returns (hB d13_9) hr
  · show Qini2 Z G1 fm a1 b ka c0 c1 h0 n0 _ T154.heap _
    exact ⟨t_154, kb_154, (0 : Int32), (2 : Int32), _, rfl, N154, K0_155, f154_0, f154_1, f154_2, f154_3, Or.inl ⟨rfl, rfl, rfl, own_all2 hl0 hl1⟩⟩
theorem rmini2_W (l : Launch) (Z : State) (a0 : Array Value) (G1 : Int32) (fm : Value) (hG : Glob Z a0 G1 fm) (ws : List Jvm.Cond) (a1 : Addr) (b : Addr) (ka : ClassId) (c0 : Int32) (c1 : Int32) (h0 : Heap) (n0 : Nat) (Z0 : n0 ≤ h0.size) (X00 : Old Z n0 h0) (E_a1 : Exa Z h0 a1 "java/lang/String") (g_a1 : n0 ≤ a1) (F_value_a1 : Fld Z h0 a1 "java/lang/String" "value" "[B" .null) (F_coder_a1 : Fld Z h0 a1 "java/lang/String" "coder" "B" (.int 0)) (V_b : Arv Z h0 b ka .char (2 : Int32) [.int c0, .int c1] (.int 0)) (ne_b_a1 : b ≠ a1) (hwid : ¬ (¬ ((255 : Int32) < c0) ∧ ¬ ((255 : Int32) < c1))) (hu : ∀ c ∈ ([c0, c1] : List Int32), own_u16 c) :
    Met l Z h0 y13 jdk_42_method_3_code 2 none ws (Room.mk 5 2 6 74) #[.ref a1, .ref b] (Qini2 Z G1 fm a1 b ka c0 c1 h0 n0) := by
  obtain ⟨hw, O_cs, P_cs, O_as, O_hi, O_lo, O_fm, R_fm⟩ := id hG
  have W := @own_W _ _ hw
  refine own_go "java/lang/String" rfl (plainFor_of_name pn_java_lang_String) ?_
  intro p e s m below meth c s₁ Bd hx hby hml hown hnm X0 e0 hZ
  have hB := @hb _ _ hby
  have N0 := Fr.nil n0
  obtain ⟨clq173, Arq173, qaq173, Sq173, Nq173, Hq173, Gq173⟩ := id V_b
  -- pc 6: java/lang/String.<init>
  obtain ⟨_, _, ⟨T174, L174, k174, n174⟩, -, X174, ⟨Lc174, hQ174, l174, y174, z174⟩, st174⟩ := X0.specialBack hx (y := y12) rfl hown (mvT hZ (W 15 rfl)) (mvT hZ (W 16 rfl)) (mvT hZ (W 18 rfl)) (by decide) (backOf (W := 0) (rmviW2 l Z a0 G1 fm hG [] a1 b ka c0 c1 h0 n0 Z0 X00 E_a1 g_a1 F_value_a1 F_coder_a1 V_b ne_b_a1 (by first | assumption | decide | rfl) (by first | assumption | decide | rfl)) hZ (W 18 rfl) (W 10 rfl) (by decide) (by decide)) (g := (mkF m 6 #[.val (.ref a1), .val (.ref b)] [.null, .int 2, .int 0, .ref b, .ref a1])) rfl (by rw [hml]; rfl) (Steps.refl _) (a := a1) (argsL := [.ref b, .int 0, .int 2, .null]) (rest := []) (lenOf pd___CIILjava_lang_Void__V rfl) rfl (by show 2 * 0 + _ ≤ _; exact Nat.le_of_eq rfl) (hB d13_6) (fun _ _ => ⟨rfl, e0, (by decide : 0 + 2 ≤ _), (by decide : 0 + 6 ≤ _)⟩)
  dsimp only [Pt.U, Pt.locs, Pt.cells, Pt.slots] at X174 l174 y174 z174 st174 hQ174
  subst l174 y174 z174
  obtain ⟨t_174, kb_174, rfl, N174q, K174, f174_0, f174_1, f174_2, f174_3⟩ := hQ174
  have N174 := Fr.app N0 N174q
  have Z175 : n0 ≤ T174.heap.size := Nat.le_trans Z0 K174.1
  have K0_175 : Keep h0 T174.heap [a1] := (Keep.refl h0 [a1]).trans K174 (allS (Or.inl (List.mem_of_getElem? (i := 0) rfl)) all0)
  have O175 : Old Z n0 T174.heap := X00.keep K174 (allS g_a1 all0)
  obtain ⟨fs, hr, hrun, hended, hW, hsame⟩ := X174.leave (v := none) (fun _ => rfl)
  refine ⟨_, _, castTop (ef_jdk_42_method_3_code_RR m a1 b) ?_, hrun, hended, _, _, rfl, ?_, ⟨_, rfl⟩, hW, hsame.mono (own_ble rfl) (own_ble rfl)⟩
  · show Steps _ _ _ (s₁.setTop (mkF m 0 #[.val (.ref a1), .val (.ref b)] [])) _
    refine XS.aloadN X0.here hx rfl (hB d13_0) rfl rfl ?_
    refine XS.aloadN X0.here hx rfl (hB d13_1) rfl rfl ?_
    refine XS.iconst X0.here hx rfl (hB d13_2) ?_
    refine XS.aloadN X0.here hx rfl (hB d13_3) rfl rfl ?_
    refine X0.arraylength hx (own_cell e0 Arq173.1) (State.isArrayOf_alike hZ.alike Arq173.2.1) (g := (mkF m 4 #[.val (.ref a1), .val (.ref b)] [.ref b, .int 0, .ref b, .ref a1])) rfl rfl (hB d13_4) _ ?_
    rw [len_of Sq173 Nq173]
    refine XS.aconstNull X0.here hx rfl (hB d13_5) ?_
    refine st174.trans ?_
    show Steps _ _ _ (T174.setTop (mkF m 9 #[.val (.ref a1), .val (.ref b)] [])) _
    exact X174.returnOut hx Bd.returns (hB d13_9) hr
  · show Qini2 Z G1 fm a1 b ka c0 c1 h0 n0 _ T174.heap _
    exact ⟨t_174, kb_174, (1 : Int32), (4 : Int32), _, rfl, N174, K0_175, f174_0, f174_1, f174_2, f174_3, Or.inr ⟨rfl, rfl, rfl⟩⟩
theorem rmini2 (l : Launch) (Z : State) (a0 : Array Value) (G1 : Int32) (fm : Value) (hG : Glob Z a0 G1 fm) (ws : List Jvm.Cond) (a1 : Addr) (b : Addr) (ka : ClassId) (c0 : Int32) (c1 : Int32) (h0 : Heap) (n0 : Nat) (Z0 : n0 ≤ h0.size) (X00 : Old Z n0 h0) (E_a1 : Exa Z h0 a1 "java/lang/String") (g_a1 : n0 ≤ a1) (F_value_a1 : Fld Z h0 a1 "java/lang/String" "value" "[B" .null) (F_coder_a1 : Fld Z h0 a1 "java/lang/String" "coder" "B" (.int 0)) (V_b : Arv Z h0 b ka .char (2 : Int32) [.int c0, .int c1] (.int 0)) (ne_b_a1 : b ≠ a1) (hu : ∀ c ∈ ([c0, c1] : List Int32), own_u16 c) :
    Met l Z h0 y13 jdk_42_method_3_code 2 none ws (Room.mk 5 2 6 74) #[.ref a1, .ref b] (Qini2 Z G1 fm a1 b ka c0 c1 h0 n0) := by
  by_cases hwid : (¬ ((255 : Int32) < c0) ∧ ¬ ((255 : Int32) < c1))
  · obtain ⟨hl0, hl1⟩ := hwid
    exact rmini2_L l Z a0 G1 fm hG ws a1 b ka c0 c1 h0 n0 Z0 X00 E_a1 g_a1 F_value_a1 F_coder_a1 V_b ne_b_a1 hl0 hl1
  · exact rmini2_W l Z a0 G1 fm hG ws a1 b ka c0 c1 h0 n0 Z0 X00 E_a1 g_a1 F_value_a1 F_coder_a1 V_b ne_b_a1 hwid hu
def Qc5L3 (Z : State) (G1 : Int32) (fm : Value) (a1 : Addr) (a2 : Addr) (ka : ClassId) (kb : ClassId) (c0 : Int32) (c1 : Int32) (c2 : Int32) (h0 : Heap) (n0 : Nat) (v : Option Value) (h : Heap) (L : List Loc) : Prop := v = some (.int 3) ∧ Fr n0 L ∧ Keep h0 h [a2] ∧ Arv Z h a2 kb .byte (3 : Int32) [(.int ((c0.toInt8.toInt32).toInt8.toInt32)), (.int ((c1.toInt8.toInt32).toInt8.toInt32)), (.int ((c2.toInt8.toInt32).toInt8.toInt32))] (.int 0)
theorem rmc5L3 (l : Launch) (Z : State) (a0 : Array Value) (G1 : Int32) (fm : Value) (hG : Glob Z a0 G1 fm) (ws : List Jvm.Cond) (a1 : Addr) (a2 : Addr) (ka : ClassId) (kb : ClassId) (c0 : Int32) (c1 : Int32) (c2 : Int32) (h0 : Heap) (n0 : Nat) (Z0 : n0 ≤ h0.size) (X00 : Old Z n0 h0) (V_a1 : Arv Z h0 a1 ka .char (3 : Int32) [.int c0, .int c1, .int c2] (.int 0)) (V_a2 : Arv Z h0 a2 kb .byte (3 : Int32) [.int 0, .int 0, .int 0] (.int 0)) (g_a2 : n0 ≤ a2) (ne_a1_a2 : a1 ≠ a2) (hl0 : ¬ ((255 : Int32) < c0)) (hl1 : ¬ ((255 : Int32) < c1)) (hl2 : ¬ ((255 : Int32) < c2)) :
    Met l Z h0 y6 jdk_52_method_21_code 7 (some .int) ws (Room.mk 0 0 0 0) #[.ref a1, .int 0, .ref a2, .int 0, .int 3] (Qc5L3 Z G1 fm a1 a2 ka kb c0 c1 c2 h0 n0) := by
  obtain ⟨hw, O_cs, P_cs, O_as, O_hi, O_lo, O_fm, R_fm⟩ := id hG
  have W := @own_W _ _ hw
  refine own_go "java/lang/StringUTF16" rfl (plainFor_of_name pn_java_lang_StringUTF16) ?_
  intro p e s m below meth c s₁ Bd hx hby hml hown hnm X0 e0 hZ
  have hB := @hb _ _ hby
  have N0 := Fr.nil n0
  obtain ⟨clq176, Arq176, qaq176, Sq176, Nq176, Hq176, Gq176⟩ := id V_a1
  have hinq176 := inb_of (j := (0 : Int32)) Sq176 ⟨by decide, by decide⟩
  have hatq176 := Has.at (v := (.int c0)) Hq176 hinq176 rfl
  obtain ⟨clq177, Arq177, qaq177, Sq177, Nq177, Hq177, Gq177⟩ := id V_a2
  have hinq177 := inb_of (j := (0 : Int32)) Sq177 ⟨by decide, by decide⟩
  obtain ⟨T178, h178, X178, e178, W178, st178⟩ := stB X0 hx hZ e0 Arq177 (j := (0 : Int32)) hinq177 (g := (mkF m 31 #[.val (.ref a1), .val (.int 0), .val (.ref a2), .val (.int 0), .val (.int 3), .val (.int 0), .val (.int c0)] [(.int (c0.toInt8.toInt32)), .int 0, .ref a2])) rfl rfl (hB d6_31)
  have V178 : Arv Z h178 a2 kb .byte (3 : Int32) [(.int ((c0.toInt8.toInt32).toInt8.toInt32)), .int 0, .int 0] (.int 0) := Arv.set Arq177 qaq177 Sq177 Nq177 Hq177 Gq177 (fits_nar_byte _) W178 0 rfl (own_ble rfl)
  have Z179 : n0 ≤ h178.size := Nat.le_trans Z0 (Keep.of_wr W178).1
  have K0_179 : Keep h0 h178 [a2] := (Keep.refl h0 [a2]).wr W178 (Or.inl (List.mem_of_getElem? (i := 0) rfl))
  have O179 : Old Z n0 h178 := X00.wr W178 g_a2
  have N178 := Fr.snoc X178 N0 g_a2
  have f180 := (V_a1.other W178 ne_a1_a2)
  obtain ⟨clq181, Arq181, qaq181, Sq181, Nq181, Hq181, Gq181⟩ := id f180
  have hinq181 := inb_of (j := (1 : Int32)) Sq181 ⟨by decide, by decide⟩
  have hatq181 := Has.at (v := (.int c1)) Hq181 hinq181 rfl
  obtain ⟨clq182, Arq182, qaq182, Sq182, Nq182, Hq182, Gq182⟩ := id V178
  have hinq182 := inb_of (j := (1 : Int32)) Sq182 ⟨by decide, by decide⟩
  obtain ⟨T183, h183, X183, e183, W183, st183⟩ := stB X178 hx hZ e178 Arq182 (j := (1 : Int32)) hinq182 (g := (mkF m 31 #[.val (.ref a1), .val (.int 1), .val (.ref a2), .val (.int 1), .val (.int 3), .val (.int 1), .val (.int c1)] [(.int (c1.toInt8.toInt32)), .int 1, .ref a2])) rfl rfl (hB d6_31)
  have V183 : Arv Z h183 a2 kb .byte (3 : Int32) [(.int ((c0.toInt8.toInt32).toInt8.toInt32)), (.int ((c1.toInt8.toInt32).toInt8.toInt32)), .int 0] (.int 0) := Arv.set Arq182 qaq182 Sq182 Nq182 Hq182 Gq182 (fits_nar_byte _) W183 1 rfl (own_ble rfl)
  have Z184 : n0 ≤ h183.size := Nat.le_trans Z179 (Keep.of_wr W183).1
  have K0_184 : Keep h0 h183 [a2] := K0_179.wr W183 (Or.inl (List.mem_of_getElem? (i := 0) rfl))
  have O184 : Old Z n0 h183 := O179.wr W183 g_a2
  have N183 := Fr.snoc X183 N178 g_a2
  have f185 := (f180.other W183 ne_a1_a2)
  obtain ⟨clq186, Arq186, qaq186, Sq186, Nq186, Hq186, Gq186⟩ := id f185
  have hinq186 := inb_of (j := (2 : Int32)) Sq186 ⟨by decide, by decide⟩
  have hatq186 := Has.at (v := (.int c2)) Hq186 hinq186 rfl
  obtain ⟨clq187, Arq187, qaq187, Sq187, Nq187, Hq187, Gq187⟩ := id V183
  have hinq187 := inb_of (j := (2 : Int32)) Sq187 ⟨by decide, by decide⟩
  obtain ⟨T188, h188, X188, e188, W188, st188⟩ := stB X183 hx hZ e183 Arq187 (j := (2 : Int32)) hinq187 (g := (mkF m 31 #[.val (.ref a1), .val (.int 2), .val (.ref a2), .val (.int 2), .val (.int 3), .val (.int 2), .val (.int c2)] [(.int (c2.toInt8.toInt32)), .int 2, .ref a2])) rfl rfl (hB d6_31)
  have V188 : Arv Z h188 a2 kb .byte (3 : Int32) [(.int ((c0.toInt8.toInt32).toInt8.toInt32)), (.int ((c1.toInt8.toInt32).toInt8.toInt32)), (.int ((c2.toInt8.toInt32).toInt8.toInt32))] (.int 0) := Arv.set Arq187 qaq187 Sq187 Nq187 Hq187 Gq187 (fits_nar_byte _) W188 2 rfl (own_ble rfl)
  have Z189 : n0 ≤ h188.size := Nat.le_trans Z184 (Keep.of_wr W188).1
  have K0_189 : Keep h0 h188 [a2] := K0_184.wr W188 (Or.inl (List.mem_of_getElem? (i := 0) rfl))
  have O189 : Old Z n0 h188 := O184.wr W188 g_a2
  have N188 := Fr.snoc X188 N183 g_a2
  obtain ⟨fs, hr, hrun, hended, hW, hsame⟩ := X188.leave (v := some (.int 3)) (fun h => by rw [Bd.returns] at h; cases h)
  refine ⟨_, _, castTop (ef_jdk_52_method_21_code_RIRII m a1 (0 : Int32) a2 (0 : Int32) (3 : Int32)) ?_, hrun, hended, _, _, rfl, ?_, ⟨_, rfl⟩, hW, hsame.mono (own_ble rfl) (own_ble rfl)⟩
  · show Steps _ _ _ (s₁.setTop (mkF m 0 #[.val (.ref a1), .val (.int 0), .val (.ref a2), .val (.int 0), .val (.int 3), .unset, .unset] [])) _
    refine XS.iconst X0.here hx rfl (hB d6_0) ?_
    refine XS.istore X0.here hx rfl (hB d6_1) rfl (l' := #[.val (.ref a1), .val (.int 0), .val (.ref a2), .val (.int 0), .val (.int 3), .val (.int 0), .unset]) rfl ?_
    refine XS.iload X0.here hx rfl (hB d6_3) rfl ?_
    refine XS.iload X0.here hx rfl (hB d6_5) rfl ?_
    refine XS.icmpNo X0.here hx rfl (hB d6_7) rfl (tlt (by decide : (0 : Int32) < (3 : Int32))).2.1 ?_
    refine XS.aloadN X0.here hx rfl (hB d6_10) rfl rfl ?_
    refine XS.iloadN X0.here hx rfl (hB d6_11) rfl ?_
    refine X0.caload hx (j := (0 : Int32)) (v := (.int c0)) (own_cell e0 Arq176.1) (State.isArrayOf_alike hZ.alike Arq176.2.1) Arq176.2.2 hinq176 hatq176 (g := (mkF m 12 #[.val (.ref a1), .val (.int 0), .val (.ref a2), .val (.int 0), .val (.int 3), .val (.int 0), .unset] [.int 0, .ref a1])) rfl rfl (hB d6_12) _ ?_
    refine XS.istore X0.here hx rfl (hB d6_13) rfl (l' := #[.val (.ref a1), .val (.int 0), .val (.ref a2), .val (.int 0), .val (.int 3), .val (.int 0), .val (.int c0)]) rfl ?_
    refine XS.iload X0.here hx rfl (hB d6_15) rfl ?_
    refine XS.sipush X0.here hx rfl (hB d6_17) ?_
    refine XS.icmpYes X0.here hx rfl (pc0 := 20) (pc' := 26) rfl (hB d6_20) rfl (flt (hl0 : ¬ ((255 : Int32) < c0))).2.2.2 (by decide) (by decide) ?_
    refine XS.aloadN X0.here hx rfl (hB d6_26) rfl rfl ?_
    refine XS.iloadN X0.here hx rfl (hB d6_27) rfl ?_
    refine XS.iload X0.here hx rfl (hB d6_28) rfl ?_
    refine XS.i2b X0.here hx rfl (hB d6_30) rfl ?_
    show Steps _ _ _ (s₁.setTop (mkF m 31 #[.val (.ref a1), .val (.int 0), .val (.ref a2), .val (.int 0), .val (.int 3), .val (.int 0), .val (.int c0)] [(.int (c0.toInt8.toInt32)), .int 0, .ref a2])) _
    refine st178 _ ?_
    show Steps _ _ _ (T178.setTop (mkF m 32 #[.val (.ref a1), .val (.int 0), .val (.ref a2), .val (.int 0), .val (.int 3), .val (.int 0), .val (.int c0)] [])) _
    refine XS.iinc X178.here hx rfl (hB d6_32) rfl (l' := #[.val (.ref a1), .val (.int 1), .val (.ref a2), .val (.int 0), .val (.int 3), .val (.int 0), .val (.int c0)]) rfl ?_
    refine XS.iinc X178.here hx rfl (hB d6_35) rfl (l' := #[.val (.ref a1), .val (.int 1), .val (.ref a2), .val (.int 1), .val (.int 3), .val (.int 0), .val (.int c0)]) rfl ?_
    refine XS.iinc X178.here hx rfl (hB d6_38) rfl (l' := #[.val (.ref a1), .val (.int 1), .val (.ref a2), .val (.int 1), .val (.int 3), .val (.int 1), .val (.int c0)]) rfl ?_
    refine XS.goto X178.here hx rfl (pc0 := 41) (pc' := 3) rfl (hB d6_41) (by decide) (by decide) ?_
    refine XS.iload X178.here hx rfl (hB d6_3) rfl ?_
    refine XS.iload X178.here hx rfl (hB d6_5) rfl ?_
    refine XS.icmpNo X178.here hx rfl (hB d6_7) rfl (tlt (by decide : (1 : Int32) < (3 : Int32))).2.1 ?_
    refine XS.aloadN X178.here hx rfl (hB d6_10) rfl rfl ?_
    refine XS.iloadN X178.here hx rfl (hB d6_11) rfl ?_
    refine X178.caload hx (j := (1 : Int32)) (v := (.int c1)) (own_cell e178 Arq181.1) (State.isArrayOf_alike hZ.alike Arq181.2.1) Arq181.2.2 hinq181 hatq181 (g := (mkF m 12 #[.val (.ref a1), .val (.int 1), .val (.ref a2), .val (.int 1), .val (.int 3), .val (.int 1), .val (.int c0)] [.int 1, .ref a1])) rfl rfl (hB d6_12) _ ?_
    refine XS.istore X178.here hx rfl (hB d6_13) rfl (l' := #[.val (.ref a1), .val (.int 1), .val (.ref a2), .val (.int 1), .val (.int 3), .val (.int 1), .val (.int c1)]) rfl ?_
    refine XS.iload X178.here hx rfl (hB d6_15) rfl ?_
    refine XS.sipush X178.here hx rfl (hB d6_17) ?_
    refine XS.icmpYes X178.here hx rfl (pc0 := 20) (pc' := 26) rfl (hB d6_20) rfl (flt (hl1 : ¬ ((255 : Int32) < c1))).2.2.2 (by decide) (by decide) ?_
    refine XS.aloadN X178.here hx rfl (hB d6_26) rfl rfl ?_
    refine XS.iloadN X178.here hx rfl (hB d6_27) rfl ?_
    show Steps _ _ _ (T178.setTop (mkF m 28 #[.val (.ref a1), .val (.int 1), .val (.ref a2), .val (.int 1), .val (.int 3), .val (.int 1), .val (.int c1)] [.int 1, .ref a2])) _
    refine XS.iload X178.here hx rfl (hB d6_28) rfl ?_
    refine XS.i2b X178.here hx rfl (hB d6_30) rfl ?_
    refine st183 _ ?_
    show Steps _ _ _ (T183.setTop (mkF m 32 #[.val (.ref a1), .val (.int 1), .val (.ref a2), .val (.int 1), .val (.int 3), .val (.int 1), .val (.int c1)] [])) _
    refine XS.iinc X183.here hx rfl (hB d6_32) rfl (l' := #[.val (.ref a1), .val (.int 2), .val (.ref a2), .val (.int 1), .val (.int 3), .val (.int 1), .val (.int c1)]) rfl ?_
    refine XS.iinc X183.here hx rfl (hB d6_35) rfl (l' := #[.val (.ref a1), .val (.int 2), .val (.ref a2), .val (.int 2), .val (.int 3), .val (.int 1), .val (.int c1)]) rfl ?_
    refine XS.iinc X183.here hx rfl (hB d6_38) rfl (l' := #[.val (.ref a1), .val (.int 2), .val (.ref a2), .val (.int 2), .val (.int 3), .val (.int 2), .val (.int c1)]) rfl ?_
    refine XS.goto X183.here hx rfl (pc0 := 41) (pc' := 3) rfl (hB d6_41) (by decide) (by decide) ?_
    refine XS.iload X183.here hx rfl (hB d6_3) rfl ?_
    refine XS.iload X183.here hx rfl (hB d6_5) rfl ?_
    refine XS.icmpNo X183.here hx rfl (hB d6_7) rfl (tlt (by decide : (2 : Int32) < (3 : Int32))).2.1 ?_
    refine XS.aloadN X183.here hx rfl (hB d6_10) rfl rfl ?_
    refine XS.iloadN X183.here hx rfl (hB d6_11) rfl ?_
    refine X183.caload hx (j := (2 : Int32)) (v := (.int c2)) (own_cell e183 Arq186.1) (State.isArrayOf_alike hZ.alike Arq186.2.1) Arq186.2.2 hinq186 hatq186 (g := (mkF m 12 #[.val (.ref a1), .val (.int 2), .val (.ref a2), .val (.int 2), .val (.int 3), .val (.int 2), .val (.int c1)] [.int 2, .ref a1])) rfl rfl (hB d6_12) _ ?_
    refine XS.istore X183.here hx rfl (hB d6_13) rfl (l' := #[.val (.ref a1), .val (.int 2), .val (.ref a2), .val (.int 2), .val (.int 3), .val (.int 2), .val (.int c2)]) rfl ?_
    refine XS.iload X183.here hx rfl (hB d6_15) rfl ?_
    refine XS.sipush X183.here hx rfl (hB d6_17) ?_
    refine XS.icmpYes X183.here hx rfl (pc0 := 20) (pc' := 26) rfl (hB d6_20) rfl (flt (hl2 : ¬ ((255 : Int32) < c2))).2.2.2 (by decide) (by decide) ?_
    refine XS.aloadN X183.here hx rfl (hB d6_26) rfl rfl ?_
    refine XS.iloadN X183.here hx rfl (hB d6_27) rfl ?_
    show Steps _ _ _ (T183.setTop (mkF m 28 #[.val (.ref a1), .val (.int 2), .val (.ref a2), .val (.int 2), .val (.int 3), .val (.int 2), .val (.int c2)] [.int 2, .ref a2])) _
    refine XS.iload X183.here hx rfl (hB d6_28) rfl ?_
    refine XS.i2b X183.here hx rfl (hB d6_30) rfl ?_
    refine st188 _ ?_
    show Steps _ _ _ (T188.setTop (mkF m 32 #[.val (.ref a1), .val (.int 2), .val (.ref a2), .val (.int 2), .val (.int 3), .val (.int 2), .val (.int c2)] [])) _
    refine XS.iinc X188.here hx rfl (hB d6_32) rfl (l' := #[.val (.ref a1), .val (.int 3), .val (.ref a2), .val (.int 2), .val (.int 3), .val (.int 2), .val (.int c2)]) rfl ?_
    refine XS.iinc X188.here hx rfl (hB d6_35) rfl (l' := #[.val (.ref a1), .val (.int 3), .val (.ref a2), .val (.int 3), .val (.int 3), .val (.int 2), .val (.int c2)]) rfl ?_
    refine XS.iinc X188.here hx rfl (hB d6_38) rfl (l' := #[.val (.ref a1), .val (.int 3), .val (.ref a2), .val (.int 3), .val (.int 3), .val (.int 3), .val (.int c2)]) rfl ?_
    refine XS.goto X188.here hx rfl (pc0 := 41) (pc' := 3) rfl (hB d6_41) (by decide) (by decide) ?_
    refine XS.iload X188.here hx rfl (hB d6_3) rfl ?_
    refine XS.iload X188.here hx rfl (hB d6_5) rfl ?_
    refine XS.icmpYes X188.here hx rfl (pc0 := 7) (pc' := 44) rfl (hB d6_7) rfl (flt (by decide : ¬ ((3 : Int32) < (3 : Int32)))).2.1 (by decide) (by decide) ?_
    refine XS.iload X188.here hx rfl (hB d6_44) rfl ?_
    exact retOut X188 hx Bd.returns rfl (Or.inl ⟨rfl, Or.inl rfl, _, rfl⟩) (hB d6_46) hr
  · show Qc5L3 Z G1 fm a1 a2 ka kb c0 c1 c2 h0 n0 _ T188.heap _
    rw [e188]
    exact ⟨rfl, N188, K0_189, V188⟩
def Qc5W3 (Z : State) (G1 : Int32) (fm : Value) (a1 : Addr) (a2 : Addr) (ka : ClassId) (kb : ClassId) (c0 : Int32) (c1 : Int32) (c2 : Int32) (h0 : Heap) (n0 : Nat) (v : Option Value) (h : Heap) (L : List Loc) : Prop := ∃ j : Int32, v = some (.int j) ∧ Fr n0 L ∧ Keep h0 h [a2] ∧ own_first j [c0, c1, c2]
theorem rmc5W3_0 (l : Launch) (Z : State) (a0 : Array Value) (G1 : Int32) (fm : Value) (hG : Glob Z a0 G1 fm) (ws : List Jvm.Cond) (a1 : Addr) (a2 : Addr) (ka : ClassId) (kb : ClassId) (c0 : Int32) (c1 : Int32) (c2 : Int32) (h0 : Heap) (n0 : Nat) (Z0 : n0 ≤ h0.size) (X00 : Old Z n0 h0) (V_a1 : Arv Z h0 a1 ka .char (3 : Int32) [.int c0, .int c1, .int c2] (.int 0)) (V_a2 : Arv Z h0 a2 kb .byte (3 : Int32) [.int 0, .int 0, .int 0] (.int 0)) (g_a2 : n0 ≤ a2) (ne_a1_a2 : a1 ≠ a2) (hwid : ¬ (¬ ((255 : Int32) < c0) ∧ ¬ ((255 : Int32) < c1) ∧ ¬ ((255 : Int32) < c2))) (hwd : (255 : Int32) < c0) :
    Met l Z h0 y6 jdk_52_method_21_code 7 (some .int) ws (Room.mk 0 0 0 0) #[.ref a1, .int 0, .ref a2, .int 0, .int 3] (Qc5W3 Z G1 fm a1 a2 ka kb c0 c1 c2 h0 n0) := by
  obtain ⟨hw, O_cs, P_cs, O_as, O_hi, O_lo, O_fm, R_fm⟩ := id hG
  have W := @own_W _ _ hw
  refine own_go "java/lang/StringUTF16" rfl (plainFor_of_name pn_java_lang_StringUTF16) ?_
  intro p e s m below meth c s₁ Bd hx hby hml hown hnm X0 e0 hZ
  have hB := @hb _ _ hby
  have N0 := Fr.nil n0
  obtain ⟨clq190, Arq190, qaq190, Sq190, Nq190, Hq190, Gq190⟩ := id V_a1
  have hinq190 := inb_of (j := (0 : Int32)) Sq190 ⟨by decide, by decide⟩
  have hatq190 := Has.at (v := (.int c0)) Hq190 hinq190 rfl
  obtain ⟨fs, hr, hrun, hended, hW, hsame⟩ := X0.leave (v := some (.int 0)) (fun h => by rw [Bd.returns] at h; cases h)
  refine ⟨_, _, castTop (ef_jdk_52_method_21_code_RIRII m a1 (0 : Int32) a2 (0 : Int32) (3 : Int32)) ?_, hrun, hended, _, _, rfl, ?_, ⟨_, rfl⟩, hW, hsame.mono (own_ble rfl) (own_ble rfl)⟩
  · show Steps _ _ _ (s₁.setTop (mkF m 0 #[.val (.ref a1), .val (.int 0), .val (.ref a2), .val (.int 0), .val (.int 3), .unset, .unset] [])) _
    refine XS.iconst X0.here hx rfl (hB d6_0) ?_
    refine XS.istore X0.here hx rfl (hB d6_1) rfl (l' := #[.val (.ref a1), .val (.int 0), .val (.ref a2), .val (.int 0), .val (.int 3), .val (.int 0), .unset]) rfl ?_
    refine XS.iload X0.here hx rfl (hB d6_3) rfl ?_
    refine XS.iload X0.here hx rfl (hB d6_5) rfl ?_
    refine XS.icmpNo X0.here hx rfl (hB d6_7) rfl (tlt (by decide : (0 : Int32) < (3 : Int32))).2.1 ?_
    refine XS.aloadN X0.here hx rfl (hB d6_10) rfl rfl ?_
    refine XS.iloadN X0.here hx rfl (hB d6_11) rfl ?_
    refine X0.caload hx (j := (0 : Int32)) (v := (.int c0)) (own_cell e0 Arq190.1) (State.isArrayOf_alike hZ.alike Arq190.2.1) Arq190.2.2 hinq190 hatq190 (g := (mkF m 12 #[.val (.ref a1), .val (.int 0), .val (.ref a2), .val (.int 0), .val (.int 3), .val (.int 0), .unset] [.int 0, .ref a1])) rfl rfl (hB d6_12) _ ?_
    refine XS.istore X0.here hx rfl (hB d6_13) rfl (l' := #[.val (.ref a1), .val (.int 0), .val (.ref a2), .val (.int 0), .val (.int 3), .val (.int 0), .val (.int c0)]) rfl ?_
    refine XS.iload X0.here hx rfl (hB d6_15) rfl ?_
    refine XS.sipush X0.here hx rfl (hB d6_17) ?_
    refine XS.icmpNo X0.here hx rfl (hB d6_20) rfl (tlt (hwd : (255 : Int32) < c0)).2.2.2 ?_
    refine XS.iload X0.here hx rfl (hB d6_23) rfl ?_
    exact retOut X0 hx Bd.returns rfl (Or.inl ⟨rfl, Or.inl rfl, _, rfl⟩) (hB d6_25) hr
  · show Qc5W3 Z G1 fm a1 a2 ka kb c0 c1 c2 h0 n0 _ s₁.heap _
    rw [e0]
    exact ⟨(0 : Int32), rfl, N0, (Keep.refl h0 [a2]), ⟨0, c0, rfl, rfl, hwd⟩⟩
theorem rmc5W3_1 (l : Launch) (Z : State) (a0 : Array Value) (G1 : Int32) (fm : Value) (hG : Glob Z a0 G1 fm) (ws : List Jvm.Cond) (a1 : Addr) (a2 : Addr) (ka : ClassId) (kb : ClassId) (c0 : Int32) (c1 : Int32) (c2 : Int32) (h0 : Heap) (n0 : Nat) (Z0 : n0 ≤ h0.size) (X00 : Old Z n0 h0) (V_a1 : Arv Z h0 a1 ka .char (3 : Int32) [.int c0, .int c1, .int c2] (.int 0)) (V_a2 : Arv Z h0 a2 kb .byte (3 : Int32) [.int 0, .int 0, .int 0] (.int 0)) (g_a2 : n0 ≤ a2) (ne_a1_a2 : a1 ≠ a2) (hwid : ¬ (¬ ((255 : Int32) < c0) ∧ ¬ ((255 : Int32) < c1) ∧ ¬ ((255 : Int32) < c2))) (hl0 : ¬ ((255 : Int32) < c0)) (hwd : (255 : Int32) < c1) :
    Met l Z h0 y6 jdk_52_method_21_code 7 (some .int) ws (Room.mk 0 0 0 0) #[.ref a1, .int 0, .ref a2, .int 0, .int 3] (Qc5W3 Z G1 fm a1 a2 ka kb c0 c1 c2 h0 n0) := by
  obtain ⟨hw, O_cs, P_cs, O_as, O_hi, O_lo, O_fm, R_fm⟩ := id hG
  have W := @own_W _ _ hw
  refine own_go "java/lang/StringUTF16" rfl (plainFor_of_name pn_java_lang_StringUTF16) ?_
  intro p e s m below meth c s₁ Bd hx hby hml hown hnm X0 e0 hZ
  have hB := @hb _ _ hby
  have N0 := Fr.nil n0
  obtain ⟨clq191, Arq191, qaq191, Sq191, Nq191, Hq191, Gq191⟩ := id V_a1
  have hinq191 := inb_of (j := (0 : Int32)) Sq191 ⟨by decide, by decide⟩
  have hatq191 := Has.at (v := (.int c0)) Hq191 hinq191 rfl
  obtain ⟨clq192, Arq192, qaq192, Sq192, Nq192, Hq192, Gq192⟩ := id V_a2
  have hinq192 := inb_of (j := (0 : Int32)) Sq192 ⟨by decide, by decide⟩
  obtain ⟨T193, h193, X193, e193, W193, st193⟩ := stB X0 hx hZ e0 Arq192 (j := (0 : Int32)) hinq192 (g := (mkF m 31 #[.val (.ref a1), .val (.int 0), .val (.ref a2), .val (.int 0), .val (.int 3), .val (.int 0), .val (.int c0)] [(.int (c0.toInt8.toInt32)), .int 0, .ref a2])) rfl rfl (hB d6_31)
  have V193 : Arv Z h193 a2 kb .byte (3 : Int32) [(.int ((c0.toInt8.toInt32).toInt8.toInt32)), .int 0, .int 0] (.int 0) := Arv.set Arq192 qaq192 Sq192 Nq192 Hq192 Gq192 (fits_nar_byte _) W193 0 rfl (own_ble rfl)
  have Z194 : n0 ≤ h193.size := Nat.le_trans Z0 (Keep.of_wr W193).1
  have K0_194 : Keep h0 h193 [a2] := (Keep.refl h0 [a2]).wr W193 (Or.inl (List.mem_of_getElem? (i := 0) rfl))
  have O194 : Old Z n0 h193 := X00.wr W193 g_a2
  have N193 := Fr.snoc X193 N0 g_a2
  have f195 := (V_a1.other W193 ne_a1_a2)
  obtain ⟨clq196, Arq196, qaq196, Sq196, Nq196, Hq196, Gq196⟩ := id f195
  have hinq196 := inb_of (j := (1 : Int32)) Sq196 ⟨by decide, by decide⟩
  have hatq196 := Has.at (v := (.int c1)) Hq196 hinq196 rfl
  obtain ⟨fs, hr, hrun, hended, hW, hsame⟩ := X193.leave (v := some (.int 1)) (fun h => by rw [Bd.returns] at h; cases h)
  refine ⟨_, _, castTop (ef_jdk_52_method_21_code_RIRII m a1 (0 : Int32) a2 (0 : Int32) (3 : Int32)) ?_, hrun, hended, _, _, rfl, ?_, ⟨_, rfl⟩, hW, hsame.mono (own_ble rfl) (own_ble rfl)⟩
  · show Steps _ _ _ (s₁.setTop (mkF m 0 #[.val (.ref a1), .val (.int 0), .val (.ref a2), .val (.int 0), .val (.int 3), .unset, .unset] [])) _
    refine XS.iconst X0.here hx rfl (hB d6_0) ?_
    refine XS.istore X0.here hx rfl (hB d6_1) rfl (l' := #[.val (.ref a1), .val (.int 0), .val (.ref a2), .val (.int 0), .val (.int 3), .val (.int 0), .unset]) rfl ?_
    refine XS.iload X0.here hx rfl (hB d6_3) rfl ?_
    refine XS.iload X0.here hx rfl (hB d6_5) rfl ?_
    refine XS.icmpNo X0.here hx rfl (hB d6_7) rfl (tlt (by decide : (0 : Int32) < (3 : Int32))).2.1 ?_
    refine XS.aloadN X0.here hx rfl (hB d6_10) rfl rfl ?_
    refine XS.iloadN X0.here hx rfl (hB d6_11) rfl ?_
    refine X0.caload hx (j := (0 : Int32)) (v := (.int c0)) (own_cell e0 Arq191.1) (State.isArrayOf_alike hZ.alike Arq191.2.1) Arq191.2.2 hinq191 hatq191 (g := (mkF m 12 #[.val (.ref a1), .val (.int 0), .val (.ref a2), .val (.int 0), .val (.int 3), .val (.int 0), .unset] [.int 0, .ref a1])) rfl rfl (hB d6_12) _ ?_
    refine XS.istore X0.here hx rfl (hB d6_13) rfl (l' := #[.val (.ref a1), .val (.int 0), .val (.ref a2), .val (.int 0), .val (.int 3), .val (.int 0), .val (.int c0)]) rfl ?_
    refine XS.iload X0.here hx rfl (hB d6_15) rfl ?_
    refine XS.sipush X0.here hx rfl (hB d6_17) ?_
    refine XS.icmpYes X0.here hx rfl (pc0 := 20) (pc' := 26) rfl (hB d6_20) rfl (flt (hl0 : ¬ ((255 : Int32) < c0))).2.2.2 (by decide) (by decide) ?_
    refine XS.aloadN X0.here hx rfl (hB d6_26) rfl rfl ?_
    refine XS.iloadN X0.here hx rfl (hB d6_27) rfl ?_
    refine XS.iload X0.here hx rfl (hB d6_28) rfl ?_
    refine XS.i2b X0.here hx rfl (hB d6_30) rfl ?_
    show Steps _ _ _ (s₁.setTop (mkF m 31 #[.val (.ref a1), .val (.int 0), .val (.ref a2), .val (.int 0), .val (.int 3), .val (.int 0), .val (.int c0)] [(.int (c0.toInt8.toInt32)), .int 0, .ref a2])) _
    refine st193 _ ?_
    show Steps _ _ _ (T193.setTop (mkF m 32 #[.val (.ref a1), .val (.int 0), .val (.ref a2), .val (.int 0), .val (.int 3), .val (.int 0), .val (.int c0)] [])) _
    refine XS.iinc X193.here hx rfl (hB d6_32) rfl (l' := #[.val (.ref a1), .val (.int 1), .val (.ref a2), .val (.int 0), .val (.int 3), .val (.int 0), .val (.int c0)]) rfl ?_
    refine XS.iinc X193.here hx rfl (hB d6_35) rfl (l' := #[.val (.ref a1), .val (.int 1), .val (.ref a2), .val (.int 1), .val (.int 3), .val (.int 0), .val (.int c0)]) rfl ?_
    refine XS.iinc X193.here hx rfl (hB d6_38) rfl (l' := #[.val (.ref a1), .val (.int 1), .val (.ref a2), .val (.int 1), .val (.int 3), .val (.int 1), .val (.int c0)]) rfl ?_
    refine XS.goto X193.here hx rfl (pc0 := 41) (pc' := 3) rfl (hB d6_41) (by decide) (by decide) ?_
    refine XS.iload X193.here hx rfl (hB d6_3) rfl ?_
    refine XS.iload X193.here hx rfl (hB d6_5) rfl ?_
    refine XS.icmpNo X193.here hx rfl (hB d6_7) rfl (tlt (by decide : (1 : Int32) < (3 : Int32))).2.1 ?_
    refine XS.aloadN X193.here hx rfl (hB d6_10) rfl rfl ?_
    refine XS.iloadN X193.here hx rfl (hB d6_11) rfl ?_
    refine X193.caload hx (j := (1 : Int32)) (v := (.int c1)) (own_cell e193 Arq196.1) (State.isArrayOf_alike hZ.alike Arq196.2.1) Arq196.2.2 hinq196 hatq196 (g := (mkF m 12 #[.val (.ref a1), .val (.int 1), .val (.ref a2), .val (.int 1), .val (.int 3), .val (.int 1), .val (.int c0)] [.int 1, .ref a1])) rfl rfl (hB d6_12) _ ?_
    refine XS.istore X193.here hx rfl (hB d6_13) rfl (l' := #[.val (.ref a1), .val (.int 1), .val (.ref a2), .val (.int 1), .val (.int 3), .val (.int 1), .val (.int c1)]) rfl ?_
    refine XS.iload X193.here hx rfl (hB d6_15) rfl ?_
    refine XS.sipush X193.here hx rfl (hB d6_17) ?_
    refine XS.icmpNo X193.here hx rfl (hB d6_20) rfl (tlt (hwd : (255 : Int32) < c1)).2.2.2 ?_
    refine XS.iload X193.here hx rfl (hB d6_23) rfl ?_
    exact retOut X193 hx Bd.returns rfl (Or.inl ⟨rfl, Or.inl rfl, _, rfl⟩) (hB d6_25) hr
  · show Qc5W3 Z G1 fm a1 a2 ka kb c0 c1 c2 h0 n0 _ T193.heap _
    rw [e193]
    exact ⟨(1 : Int32), rfl, N193, K0_194, ⟨1, c1, rfl, rfl, hwd⟩⟩
theorem rmc5W3_2 (l : Launch) (Z : State) (a0 : Array Value) (G1 : Int32) (fm : Value) (hG : Glob Z a0 G1 fm) (ws : List Jvm.Cond) (a1 : Addr) (a2 : Addr) (ka : ClassId) (kb : ClassId) (c0 : Int32) (c1 : Int32) (c2 : Int32) (h0 : Heap) (n0 : Nat) (Z0 : n0 ≤ h0.size) (X00 : Old Z n0 h0) (V_a1 : Arv Z h0 a1 ka .char (3 : Int32) [.int c0, .int c1, .int c2] (.int 0)) (V_a2 : Arv Z h0 a2 kb .byte (3 : Int32) [.int 0, .int 0, .int 0] (.int 0)) (g_a2 : n0 ≤ a2) (ne_a1_a2 : a1 ≠ a2) (hwid : ¬ (¬ ((255 : Int32) < c0) ∧ ¬ ((255 : Int32) < c1) ∧ ¬ ((255 : Int32) < c2))) (hl0 : ¬ ((255 : Int32) < c0)) (hl1 : ¬ ((255 : Int32) < c1)) (hwd : (255 : Int32) < c2) :
    Met l Z h0 y6 jdk_52_method_21_code 7 (some .int) ws (Room.mk 0 0 0 0) #[.ref a1, .int 0, .ref a2, .int 0, .int 3] (Qc5W3 Z G1 fm a1 a2 ka kb c0 c1 c2 h0 n0) := by
  obtain ⟨hw, O_cs, P_cs, O_as, O_hi, O_lo, O_fm, R_fm⟩ := id hG
  have W := @own_W _ _ hw
  refine own_go "java/lang/StringUTF16" rfl (plainFor_of_name pn_java_lang_StringUTF16) ?_
  intro p e s m below meth c s₁ Bd hx hby hml hown hnm X0 e0 hZ
  have hB := @hb _ _ hby
  have N0 := Fr.nil n0
  obtain ⟨clq197, Arq197, qaq197, Sq197, Nq197, Hq197, Gq197⟩ := id V_a1
  have hinq197 := inb_of (j := (0 : Int32)) Sq197 ⟨by decide, by decide⟩
  have hatq197 := Has.at (v := (.int c0)) Hq197 hinq197 rfl
  obtain ⟨clq198, Arq198, qaq198, Sq198, Nq198, Hq198, Gq198⟩ := id V_a2
  have hinq198 := inb_of (j := (0 : Int32)) Sq198 ⟨by decide, by decide⟩
  obtain ⟨T199, h199, X199, e199, W199, st199⟩ := stB X0 hx hZ e0 Arq198 (j := (0 : Int32)) hinq198 (g := (mkF m 31 #[.val (.ref a1), .val (.int 0), .val (.ref a2), .val (.int 0), .val (.int 3), .val (.int 0), .val (.int c0)] [(.int (c0.toInt8.toInt32)), .int 0, .ref a2])) rfl rfl (hB d6_31)
  have V199 : Arv Z h199 a2 kb .byte (3 : Int32) [(.int ((c0.toInt8.toInt32).toInt8.toInt32)), .int 0, .int 0] (.int 0) := Arv.set Arq198 qaq198 Sq198 Nq198 Hq198 Gq198 (fits_nar_byte _) W199 0 rfl (own_ble rfl)
  have Z200 : n0 ≤ h199.size := Nat.le_trans Z0 (Keep.of_wr W199).1
  have K0_200 : Keep h0 h199 [a2] := (Keep.refl h0 [a2]).wr W199 (Or.inl (List.mem_of_getElem? (i := 0) rfl))
  have O200 : Old Z n0 h199 := X00.wr W199 g_a2
  have N199 := Fr.snoc X199 N0 g_a2
  have f201 := (V_a1.other W199 ne_a1_a2)
  obtain ⟨clq202, Arq202, qaq202, Sq202, Nq202, Hq202, Gq202⟩ := id f201
  have hinq202 := inb_of (j := (1 : Int32)) Sq202 ⟨by decide, by decide⟩
  have hatq202 := Has.at (v := (.int c1)) Hq202 hinq202 rfl
  obtain ⟨clq203, Arq203, qaq203, Sq203, Nq203, Hq203, Gq203⟩ := id V199
  have hinq203 := inb_of (j := (1 : Int32)) Sq203 ⟨by decide, by decide⟩
  obtain ⟨T204, h204, X204, e204, W204, st204⟩ := stB X199 hx hZ e199 Arq203 (j := (1 : Int32)) hinq203 (g := (mkF m 31 #[.val (.ref a1), .val (.int 1), .val (.ref a2), .val (.int 1), .val (.int 3), .val (.int 1), .val (.int c1)] [(.int (c1.toInt8.toInt32)), .int 1, .ref a2])) rfl rfl (hB d6_31)
  have V204 : Arv Z h204 a2 kb .byte (3 : Int32) [(.int ((c0.toInt8.toInt32).toInt8.toInt32)), (.int ((c1.toInt8.toInt32).toInt8.toInt32)), .int 0] (.int 0) := Arv.set Arq203 qaq203 Sq203 Nq203 Hq203 Gq203 (fits_nar_byte _) W204 1 rfl (own_ble rfl)
  have Z205 : n0 ≤ h204.size := Nat.le_trans Z200 (Keep.of_wr W204).1
  have K0_205 : Keep h0 h204 [a2] := K0_200.wr W204 (Or.inl (List.mem_of_getElem? (i := 0) rfl))
  have O205 : Old Z n0 h204 := O200.wr W204 g_a2
  have N204 := Fr.snoc X204 N199 g_a2
  have f206 := (f201.other W204 ne_a1_a2)
  obtain ⟨clq207, Arq207, qaq207, Sq207, Nq207, Hq207, Gq207⟩ := id f206
  have hinq207 := inb_of (j := (2 : Int32)) Sq207 ⟨by decide, by decide⟩
  have hatq207 := Has.at (v := (.int c2)) Hq207 hinq207 rfl
  obtain ⟨fs, hr, hrun, hended, hW, hsame⟩ := X204.leave (v := some (.int 2)) (fun h => by rw [Bd.returns] at h; cases h)
  refine ⟨_, _, castTop (ef_jdk_52_method_21_code_RIRII m a1 (0 : Int32) a2 (0 : Int32) (3 : Int32)) ?_, hrun, hended, _, _, rfl, ?_, ⟨_, rfl⟩, hW, hsame.mono (own_ble rfl) (own_ble rfl)⟩
  · show Steps _ _ _ (s₁.setTop (mkF m 0 #[.val (.ref a1), .val (.int 0), .val (.ref a2), .val (.int 0), .val (.int 3), .unset, .unset] [])) _
    refine XS.iconst X0.here hx rfl (hB d6_0) ?_
    refine XS.istore X0.here hx rfl (hB d6_1) rfl (l' := #[.val (.ref a1), .val (.int 0), .val (.ref a2), .val (.int 0), .val (.int 3), .val (.int 0), .unset]) rfl ?_
    refine XS.iload X0.here hx rfl (hB d6_3) rfl ?_
    refine XS.iload X0.here hx rfl (hB d6_5) rfl ?_
    refine XS.icmpNo X0.here hx rfl (hB d6_7) rfl (tlt (by decide : (0 : Int32) < (3 : Int32))).2.1 ?_
    refine XS.aloadN X0.here hx rfl (hB d6_10) rfl rfl ?_
    refine XS.iloadN X0.here hx rfl (hB d6_11) rfl ?_
    refine X0.caload hx (j := (0 : Int32)) (v := (.int c0)) (own_cell e0 Arq197.1) (State.isArrayOf_alike hZ.alike Arq197.2.1) Arq197.2.2 hinq197 hatq197 (g := (mkF m 12 #[.val (.ref a1), .val (.int 0), .val (.ref a2), .val (.int 0), .val (.int 3), .val (.int 0), .unset] [.int 0, .ref a1])) rfl rfl (hB d6_12) _ ?_
    refine XS.istore X0.here hx rfl (hB d6_13) rfl (l' := #[.val (.ref a1), .val (.int 0), .val (.ref a2), .val (.int 0), .val (.int 3), .val (.int 0), .val (.int c0)]) rfl ?_
    refine XS.iload X0.here hx rfl (hB d6_15) rfl ?_
    refine XS.sipush X0.here hx rfl (hB d6_17) ?_
    refine XS.icmpYes X0.here hx rfl (pc0 := 20) (pc' := 26) rfl (hB d6_20) rfl (flt (hl0 : ¬ ((255 : Int32) < c0))).2.2.2 (by decide) (by decide) ?_
    refine XS.aloadN X0.here hx rfl (hB d6_26) rfl rfl ?_
    refine XS.iloadN X0.here hx rfl (hB d6_27) rfl ?_
    refine XS.iload X0.here hx rfl (hB d6_28) rfl ?_
    refine XS.i2b X0.here hx rfl (hB d6_30) rfl ?_
    show Steps _ _ _ (s₁.setTop (mkF m 31 #[.val (.ref a1), .val (.int 0), .val (.ref a2), .val (.int 0), .val (.int 3), .val (.int 0), .val (.int c0)] [(.int (c0.toInt8.toInt32)), .int 0, .ref a2])) _
    refine st199 _ ?_
    show Steps _ _ _ (T199.setTop (mkF m 32 #[.val (.ref a1), .val (.int 0), .val (.ref a2), .val (.int 0), .val (.int 3), .val (.int 0), .val (.int c0)] [])) _
    refine XS.iinc X199.here hx rfl (hB d6_32) rfl (l' := #[.val (.ref a1), .val (.int 1), .val (.ref a2), .val (.int 0), .val (.int 3), .val (.int 0), .val (.int c0)]) rfl ?_
    refine XS.iinc X199.here hx rfl (hB d6_35) rfl (l' := #[.val (.ref a1), .val (.int 1), .val (.ref a2), .val (.int 1), .val (.int 3), .val (.int 0), .val (.int c0)]) rfl ?_
    refine XS.iinc X199.here hx rfl (hB d6_38) rfl (l' := #[.val (.ref a1), .val (.int 1), .val (.ref a2), .val (.int 1), .val (.int 3), .val (.int 1), .val (.int c0)]) rfl ?_
    refine XS.goto X199.here hx rfl (pc0 := 41) (pc' := 3) rfl (hB d6_41) (by decide) (by decide) ?_
    refine XS.iload X199.here hx rfl (hB d6_3) rfl ?_
    refine XS.iload X199.here hx rfl (hB d6_5) rfl ?_
    refine XS.icmpNo X199.here hx rfl (hB d6_7) rfl (tlt (by decide : (1 : Int32) < (3 : Int32))).2.1 ?_
    refine XS.aloadN X199.here hx rfl (hB d6_10) rfl rfl ?_
    refine XS.iloadN X199.here hx rfl (hB d6_11) rfl ?_
    refine X199.caload hx (j := (1 : Int32)) (v := (.int c1)) (own_cell e199 Arq202.1) (State.isArrayOf_alike hZ.alike Arq202.2.1) Arq202.2.2 hinq202 hatq202 (g := (mkF m 12 #[.val (.ref a1), .val (.int 1), .val (.ref a2), .val (.int 1), .val (.int 3), .val (.int 1), .val (.int c0)] [.int 1, .ref a1])) rfl rfl (hB d6_12) _ ?_
    refine XS.istore X199.here hx rfl (hB d6_13) rfl (l' := #[.val (.ref a1), .val (.int 1), .val (.ref a2), .val (.int 1), .val (.int 3), .val (.int 1), .val (.int c1)]) rfl ?_
    refine XS.iload X199.here hx rfl (hB d6_15) rfl ?_
    refine XS.sipush X199.here hx rfl (hB d6_17) ?_
    refine XS.icmpYes X199.here hx rfl (pc0 := 20) (pc' := 26) rfl (hB d6_20) rfl (flt (hl1 : ¬ ((255 : Int32) < c1))).2.2.2 (by decide) (by decide) ?_
    refine XS.aloadN X199.here hx rfl (hB d6_26) rfl rfl ?_
    refine XS.iloadN X199.here hx rfl (hB d6_27) rfl ?_
    show Steps _ _ _ (T199.setTop (mkF m 28 #[.val (.ref a1), .val (.int 1), .val (.ref a2), .val (.int 1), .val (.int 3), .val (.int 1), .val (.int c1)] [.int 1, .ref a2])) _
    refine XS.iload X199.here hx rfl (hB d6_28) rfl ?_
    refine XS.i2b X199.here hx rfl (hB d6_30) rfl ?_
    refine st204 _ ?_
    show Steps _ _ _ (T204.setTop (mkF m 32 #[.val (.ref a1), .val (.int 1), .val (.ref a2), .val (.int 1), .val (.int 3), .val (.int 1), .val (.int c1)] [])) _
    refine XS.iinc X204.here hx rfl (hB d6_32) rfl (l' := #[.val (.ref a1), .val (.int 2), .val (.ref a2), .val (.int 1), .val (.int 3), .val (.int 1), .val (.int c1)]) rfl ?_
    refine XS.iinc X204.here hx rfl (hB d6_35) rfl (l' := #[.val (.ref a1), .val (.int 2), .val (.ref a2), .val (.int 2), .val (.int 3), .val (.int 1), .val (.int c1)]) rfl ?_
    refine XS.iinc X204.here hx rfl (hB d6_38) rfl (l' := #[.val (.ref a1), .val (.int 2), .val (.ref a2), .val (.int 2), .val (.int 3), .val (.int 2), .val (.int c1)]) rfl ?_
    refine XS.goto X204.here hx rfl (pc0 := 41) (pc' := 3) rfl (hB d6_41) (by decide) (by decide) ?_
    refine XS.iload X204.here hx rfl (hB d6_3) rfl ?_
    refine XS.iload X204.here hx rfl (hB d6_5) rfl ?_
    refine XS.icmpNo X204.here hx rfl (hB d6_7) rfl (tlt (by decide : (2 : Int32) < (3 : Int32))).2.1 ?_
    refine XS.aloadN X204.here hx rfl (hB d6_10) rfl rfl ?_
    refine XS.iloadN X204.here hx rfl (hB d6_11) rfl ?_
    refine X204.caload hx (j := (2 : Int32)) (v := (.int c2)) (own_cell e204 Arq207.1) (State.isArrayOf_alike hZ.alike Arq207.2.1) Arq207.2.2 hinq207 hatq207 (g := (mkF m 12 #[.val (.ref a1), .val (.int 2), .val (.ref a2), .val (.int 2), .val (.int 3), .val (.int 2), .val (.int c1)] [.int 2, .ref a1])) rfl rfl (hB d6_12) _ ?_
    refine XS.istore X204.here hx rfl (hB d6_13) rfl (l' := #[.val (.ref a1), .val (.int 2), .val (.ref a2), .val (.int 2), .val (.int 3), .val (.int 2), .val (.int c2)]) rfl ?_
    refine XS.iload X204.here hx rfl (hB d6_15) rfl ?_
    refine XS.sipush X204.here hx rfl (hB d6_17) ?_
    refine XS.icmpNo X204.here hx rfl (hB d6_20) rfl (tlt (hwd : (255 : Int32) < c2)).2.2.2 ?_
    refine XS.iload X204.here hx rfl (hB d6_23) rfl ?_
    exact retOut X204 hx Bd.returns rfl (Or.inl ⟨rfl, Or.inl rfl, _, rfl⟩) (hB d6_25) hr
  · show Qc5W3 Z G1 fm a1 a2 ka kb c0 c1 c2 h0 n0 _ T204.heap _
    rw [e204]
    exact ⟨(2 : Int32), rfl, N204, K0_205, ⟨2, c2, rfl, rfl, hwd⟩⟩
theorem rmc5W3 (l : Launch) (Z : State) (a0 : Array Value) (G1 : Int32) (fm : Value) (hG : Glob Z a0 G1 fm) (ws : List Jvm.Cond) (a1 : Addr) (a2 : Addr) (ka : ClassId) (kb : ClassId) (c0 : Int32) (c1 : Int32) (c2 : Int32) (h0 : Heap) (n0 : Nat) (Z0 : n0 ≤ h0.size) (X00 : Old Z n0 h0) (V_a1 : Arv Z h0 a1 ka .char (3 : Int32) [.int c0, .int c1, .int c2] (.int 0)) (V_a2 : Arv Z h0 a2 kb .byte (3 : Int32) [.int 0, .int 0, .int 0] (.int 0)) (g_a2 : n0 ≤ a2) (ne_a1_a2 : a1 ≠ a2) (hwid : ¬ (¬ ((255 : Int32) < c0) ∧ ¬ ((255 : Int32) < c1) ∧ ¬ ((255 : Int32) < c2))) :
    Met l Z h0 y6 jdk_52_method_21_code 7 (some .int) ws (Room.mk 0 0 0 0) #[.ref a1, .int 0, .ref a2, .int 0, .int 3] (Qc5W3 Z G1 fm a1 a2 ka kb c0 c1 c2 h0 n0) := by
  by_cases q0 : (255 : Int32) < c0
  · exact rmc5W3_0 l Z a0 G1 fm hG ws a1 a2 ka kb c0 c1 c2 h0 n0 Z0 X00 V_a1 V_a2 g_a2 ne_a1_a2 hwid q0
  by_cases q1 : (255 : Int32) < c1
  · exact rmc5W3_1 l Z a0 G1 fm hG ws a1 a2 ka kb c0 c1 c2 h0 n0 Z0 X00 V_a1 V_a2 g_a2 ne_a1_a2 hwid q0 q1
  by_cases q2 : (255 : Int32) < c2
  · exact rmc5W3_2 l Z a0 G1 fm hG ws a1 a2 ka kb c0 c1 c2 h0 n0 Z0 X00 V_a1 V_a2 g_a2 ne_a1_a2 hwid q0 q1 q2
  exact absurd ⟨q0, q1, q2⟩ hwid
def Qnbl3 (Z : State) (G1 : Int32) (fm : Value) (h0 : Heap) (n0 : Nat) (v : Option Value) (h : Heap) (L : List Loc) : Prop := v = some (.int 6) ∧ Fr n0 L ∧ h = h0
theorem rmnbl3 (l : Launch) (Z : State) (a0 : Array Value) (G1 : Int32) (fm : Value) (hG : Glob Z a0 G1 fm) (ws : List Jvm.Cond) (h0 : Heap) (n0 : Nat) (Z0 : n0 ≤ h0.size) (X00 : Old Z n0 h0) :
    Met l Z h0 y7 jdk_52_method_3_code 1 (some .int) ws (Room.mk 0 0 0 0) #[.int 3] (Qnbl3 Z G1 fm h0 n0) := by
  obtain ⟨hw, O_cs, P_cs, O_as, O_hi, O_lo, O_fm, R_fm⟩ := id hG
  have W := @own_W _ _ hw
  refine own_go "java/lang/StringUTF16" rfl (plainFor_of_name pn_java_lang_StringUTF16) ?_
  intro p e s m below meth c s₁ Bd hx hby hml hown hnm X0 e0 hZ
  have hB := @hb _ _ hby
  have N0 := Fr.nil n0
  obtain ⟨fs, hr, hrun, hended, hW, hsame⟩ := X0.leave (v := some (.int 6)) (fun h => by rw [Bd.returns] at h; cases h)
  refine ⟨_, _, castTop (ef_jdk_52_method_3_code_I m (3 : Int32)) ?_, hrun, hended, _, _, rfl, ?_, ⟨_, rfl⟩, hW, hsame.mono (own_ble rfl) (own_ble rfl)⟩
  · show Steps _ _ _ (s₁.setTop (mkF m 0 #[.val (.int 3)] [])) _
    refine XS.iloadN X0.here hx rfl (hB d7_0) rfl ?_
    refine XS.ifYes X0.here hx rfl (pc0 := 1) (pc' := 12) rfl (hB d7_1) rfl ((if0 _ _).trans (flt (by decide : ¬ ((3 : Int32) < (0 : Int32)))).2.1) (by decide) (by decide) ?_
    refine XS.iloadN X0.here hx rfl (hB d7_12) rfl ?_
    refine X0.ldcInt hx hown (mvT hZ (W 96 rfl)) (g := (mkF m 13 #[.val (.int 3)] [.int 3])) rfl (hB d7_13) _ ?_
    refine XS.icmpYes X0.here hx rfl (pc0 := 15) (pc' := 55) rfl (hB d7_15) rfl (tlt (by decide : (3 : Int32) < (1073741823 : Int32))).1 (by decide) (by decide) ?_
    refine XS.iloadN X0.here hx rfl (hB d7_55) rfl ?_
    refine XS.iconst X0.here hx rfl (hB d7_56) ?_
    refine XS.ishl X0.here hx rfl (hB d7_57) rfl ?_
    exact retOut X0 hx Bd.returns rfl (Or.inl ⟨rfl, Or.inl rfl, _, rfl⟩) (hB d7_58) hr
  · show Qnbl3 Z G1 fm h0 n0 _ s₁.heap _
    rw [e0]
    exact ⟨rfl, N0, rfl⟩
def Qnbf3 (Z : State) (G1 : Int32) (fm : Value) (h0 : Heap) (n0 : Nat) (v : Option Value) (h : Heap) (L : List Loc) : Prop := ∃ b : Addr, ∃ kb : ClassId, v = some (.ref b) ∧ Fr n0 L ∧ Keep h0 h [] ∧ h0.size ≤ b ∧ Arv Z h b kb .byte (6 : Int32) [.int 0, .int 0, .int 0, .int 0, .int 0, .int 0] (.int 0)
theorem rmnbf3 (l : Launch) (Z : State) (a0 : Array Value) (G1 : Int32) (fm : Value) (hG : Glob Z a0 G1 fm) (ws : List Jvm.Cond) (h0 : Heap) (n0 : Nat) (Z0 : n0 ≤ h0.size) (X00 : Old Z n0 h0) :
    Met l Z h0 y8 jdk_52_method_2_code 1 (some (.array .byte)) ws (Room.mk 1 1 6 12) #[.int 3] (Qnbf3 Z G1 fm h0 n0) := by
  obtain ⟨hw, O_cs, P_cs, O_as, O_hi, O_lo, O_fm, R_fm⟩ := id hG
  have W := @own_W _ _ hw
  refine own_go "java/lang/StringUTF16" rfl (plainFor_of_name pn_java_lang_StringUTF16) ?_
  intro p e s m below meth c s₁ Bd hx hby hml hown hnm X0 e0 hZ
  have hB := @hb _ _ hby
  have N0 := Fr.nil n0
  -- pc 1: java/lang/StringUTF16.newBytesLength
  obtain ⟨_, _, ⟨T208, L208, k208, n208⟩, -, X208, ⟨Lc208, hQ208, l208, y208, z208⟩, st208⟩ := Jvm.LawKit.callS X0 hx (y := y7) hown (mvT hZ (W 93 rfl)) (mvT hZ (W 94 rfl)) (mvT hZ (W 76 rfl)) (mvT hZ (W 95 rfl)) (by decide) (backOf (W := 0) (rmnbl3 l Z a0 G1 fm hG [] h0 n0 Z0 X00) hZ (W 95 rfl) (W 76 rfl) (by decide) (by decide)) (g := (mkF m 1 #[.val (.int 3)] [.int 3])) rfl (by rw [hml]; rfl) (argsL := [.int 3]) (rest := []) (lenOf pd__I_I rfl) rfl (by show 2 * 0 + _ ≤ _; exact Nat.le_of_eq rfl) (hB d8_1) (fun _ _ => ⟨rfl, e0, (by decide : 0 + 0 ≤ _), (by decide : 0 + 0 ≤ _)⟩)
  dsimp only [Pt.U, Pt.locs, Pt.cells, Pt.slots] at X208 l208 y208 z208 st208 hQ208
  subst l208 y208 z208
  obtain ⟨rfl, N208q, eq208⟩ := hQ208
  have N208 := Fr.app N0 N208q
  obtain ⟨T209, h209, k209, X209, e209, E209, A209, Q209, st209⟩ := newPE X208 hx hZ (W 23 rfl) eq208 (g := (mkF m 4 #[.val (.int 3)] [.int 6])) rfl (hB d8_4) rfl (by decide) (cap := 6) (by decide) (by decide) (by decide) (by decide) (ad := "[B") rfl
  obtain ⟨b209, g209⟩ : ∃ z, z = h0.size := ⟨_, rfl⟩
  rw [← g209] at A209 Q209 st209
  have Z210 : n0 ≤ h209.size := Nat.le_trans Z0 E209.1
  have K0_210 : Keep h0 h209 [] := (Keep.refl h0 []).ext E209
  have O210 : Old Z n0 h209 := X00.ext E209
  have lo_b209 : h0.size ≤ b209 := Nat.le_of_eq g209.symm
  have g_b209 : n0 ≤ b209 := Nat.le_trans Z0 lo_b209
  have l0_b209 : h0.size ≤ b209 := Nat.le_trans (Keep.refl h0 []).1 lo_b209
  have V_b209 : Arv Z h209 b209 k209 .byte (6 : Int32) [.int 0, .int 0, .int 0, .int 0, .int 0, .int 0] (.int 0) := (Arv.new A209 (by decide)).pad (pad_rep [] (.int 0) 6)
  obtain ⟨fs, hr, hrun, hended, hW, hsame⟩ := X209.leave (v := some (.ref b209)) (fun h => by rw [Bd.returns] at h; cases h)
  refine ⟨_, _, castTop (ef_jdk_52_method_2_code_I m (3 : Int32)) ?_, hrun, hended, _, _, rfl, ?_, ⟨_, rfl⟩, hW, hsame.mono (own_ble rfl) (own_ble rfl)⟩
  · show Steps _ _ _ (s₁.setTop (mkF m 0 #[.val (.int 3)] [])) _
    refine XS.iloadN X0.here hx rfl (hB d8_0) rfl ?_
    refine st208 _ ?_
    show Steps _ _ _ (T208.setTop (mkF m 4 #[.val (.int 3)] [.int 6])) _
    refine st209 _ ?_
    show Steps _ _ _ (T209.setTop (mkF m 6 #[.val (.int 3)] [.ref b209])) _
    exact retOut X209 hx Bd.returns rfl (Or.inr (Or.inr (Or.inr (Or.inr ⟨rfl, rfl, rfl⟩)))) (hB d8_6) hr
  · show Qnbf3 Z G1 fm h0 n0 _ T209.heap _
    rw [e209]
    exact ⟨b209, k209, rfl, N208, K0_210, l0_b209, V_b209⟩
def Qtob3 (Z : State) (G1 : Int32) (fm : Value) (a1 : Addr) (ka : ClassId) (c0 : Int32) (c1 : Int32) (c2 : Int32) (h0 : Heap) (n0 : Nat) (v : Option Value) (h : Heap) (L : List Loc) : Prop := ∃ b : Addr, ∃ kb : ClassId, v = some (.ref b) ∧ Fr n0 L ∧ Keep h0 h [] ∧ h0.size ≤ b ∧ Arv Z h b kb .byte (6 : Int32) [(.int (((c0 >>> ((0 : Int32) &&& 31)).toInt8.toInt32).toInt8.toInt32)), (.int (((c0 >>> ((8 : Int32) &&& 31)).toInt8.toInt32).toInt8.toInt32)), (.int (((c1 >>> ((0 : Int32) &&& 31)).toInt8.toInt32).toInt8.toInt32)), (.int (((c1 >>> ((8 : Int32) &&& 31)).toInt8.toInt32).toInt8.toInt32)), (.int (((c2 >>> ((0 : Int32) &&& 31)).toInt8.toInt32).toInt8.toInt32)), (.int (((c2 >>> ((8 : Int32) &&& 31)).toInt8.toInt32).toInt8.toInt32))] (.int 0)
theorem rmtob3 (l : Launch) (Z : State) (a0 : Array Value) (G1 : Int32) (fm : Value) (hG : Glob Z a0 G1 fm) (ws : List Jvm.Cond) (a1 : Addr) (ka : ClassId) (c0 : Int32) (c1 : Int32) (c2 : Int32) (h0 : Heap) (n0 : Nat) (Z0 : n0 ≤ h0.size) (X00 : Old Z n0 h0) (V_a1 : Arv Z h0 a1 ka .char (3 : Int32) [.int c0, .int c1, .int c2] (.int 0)) :
    Met l Z h0 y9 jdk_52_method_14_code 5 (some (.array .byte)) ws (Room.mk 2 1 6 24) #[.ref a1, .int 0, .int 3] (Qtob3 Z G1 fm a1 ka c0 c1 c2 h0 n0) := by
  obtain ⟨hw, O_cs, P_cs, O_as, O_hi, O_lo, O_fm, R_fm⟩ := id hG
  have W := @own_W _ _ hw
  refine own_go "java/lang/StringUTF16" rfl (plainFor_of_name pn_java_lang_StringUTF16) ?_
  intro p e s m below meth c s₁ Bd hx hby hml hown hnm X0 e0 hZ
  have hB := @hb _ _ hby
  have N0 := Fr.nil n0
  -- pc 1: java/lang/StringUTF16.newBytesFor
  obtain ⟨_, _, ⟨T211, L211, k211, n211⟩, -, X211, ⟨Lc211, hQ211, l211, y211, z211⟩, st211⟩ := Jvm.LawKit.callS X0 hx (y := y8) hown (mvT hZ (W 90 rfl)) (mvT hZ (W 91 rfl)) (mvT hZ (W 76 rfl)) (mvT hZ (W 92 rfl)) (by decide) (backOf (W := 0) (rmnbf3 l Z a0 G1 fm hG [] h0 n0 Z0 X00) hZ (W 92 rfl) (W 76 rfl) (by decide) (by decide)) (g := (mkF m 1 #[.val (.ref a1), .val (.int 0), .val (.int 3), .unset, .unset] [.int 3])) rfl (by rw [hml]; rfl) (argsL := [.int 3]) (rest := []) (lenOf pd__I__B rfl) rfl (by show 2 * 0 + _ ≤ _; exact Nat.le_of_eq rfl) (hB d9_1) (fun _ _ => ⟨rfl, e0, (by decide : 0 + 1 ≤ _), (by decide : 0 + 6 ≤ _)⟩)
  dsimp only [Pt.U, Pt.locs, Pt.cells, Pt.slots] at X211 l211 y211 z211 st211 hQ211
  subst l211 y211 z211
  obtain ⟨b_211, kb_211, rfl, N211q, K211, f211_0, f211_1⟩ := hQ211
  have N211 := Fr.app N0 N211q
  have Z212 : n0 ≤ T211.heap.size := Nat.le_trans Z0 K211.1
  have K0_212 : Keep h0 T211.heap [] := (Keep.refl h0 []).trans K211 all0
  have O212 : Old Z n0 T211.heap := X00.keep K211 all0
  have lo_b_211 : h0.size ≤ b_211 := f211_0
  have g_b_211 : n0 ≤ b_211 := Nat.le_trans Z0 lo_b_211
  have l0_b_211 : h0.size ≤ b_211 := Nat.le_trans (Keep.refl h0 []).1 lo_b_211
  have f213 := (V_a1.keep K211 nin0)
  obtain ⟨clq214, Arq214, qaq214, Sq214, Nq214, Hq214, Gq214⟩ := id f213
  have hinq214 := inb_of (j := (0 : Int32)) Sq214 ⟨by decide, by decide⟩
  have hatq214 := Has.at (v := (.int c0)) Hq214 hinq214 rfl
  -- pc 20: java/lang/StringUTF16.putChar
  obtain ⟨_, _, ⟨T215, L215, k215, n215⟩, -, X215, ⟨Lc215, hQ215, l215, y215, z215⟩, st215⟩ := Jvm.LawKit.callS X211 hx (y := y1) hown (mvT hZ (W 97 rfl)) (mvT hZ (W 98 rfl)) (mvT hZ (W 76 rfl)) (mvT hZ (W 99 rfl)) (by decide) (backOf (W := 0) (rmput l Z a0 G1 fm hG [] b_211 kb_211 (6 : Int32) ([.int 0, .int 0, .int 0, .int 0, .int 0, .int 0] : List Value) (0 : Int32) 0 c0 T211.heap n0 Z212 O212 f211_1 g_b_211 (by decide) (by decide) (own_ble rfl) (by decide) (by decide) (own_ble rfl)) hZ (W 99 rfl) (W 76 rfl) (by decide) (by decide)) (g := (mkF m 20 #[.val (.ref a1), .val (.int 0), .val (.int 3), .val (.ref b_211), .val (.int 0)] [.int c0, .int 0, .ref b_211])) rfl (by rw [hml]; rfl) (argsL := [.ref b_211, .int 0, .int c0]) (rest := []) (lenOf pd___BII_V rfl) rfl (by show 2 * 0 + _ ≤ _; exact Nat.le_of_eq rfl) (hB d9_20) (fun _ _ => ⟨rfl, rfl, (by decide : 1 + 0 ≤ _), (by decide : 6 + 0 ≤ _)⟩)
  dsimp only [Pt.U, Pt.locs, Pt.cells, Pt.slots] at X215 l215 y215 z215 st215 hQ215
  subst l215 y215 z215
  obtain ⟨rfl, N215q, K215, f215_0⟩ := hQ215
  have N215 := Fr.app N211 N215q
  have Z216 : n0 ≤ T215.heap.size := Nat.le_trans Z212 K215.1
  have K0_216 : Keep h0 T215.heap [] := K0_212.trans K215 (allS (Or.inr l0_b_211) all0)
  have O216 : Old Z n0 T215.heap := O212.keep K215 (allS g_b_211 all0)
  have cv215 : Arv Z T215.heap b_211 kb_211 .byte (6 : Int32) [(.int (((c0 >>> ((0 : Int32) &&& 31)).toInt8.toInt32).toInt8.toInt32)), (.int (((c0 >>> ((8 : Int32) &&& 31)).toInt8.toInt32).toInt8.toInt32)), .int 0, .int 0, .int 0, .int 0] (.int 0) := f215_0
  have f217 := (f213.keep K215 (ninS (Nat.ne_of_lt (Nat.lt_of_lt_of_le V_a1.lt lo_b_211)) nin0))
  obtain ⟨clq218, Arq218, qaq218, Sq218, Nq218, Hq218, Gq218⟩ := id f217
  have hinq218 := inb_of (j := (1 : Int32)) Sq218 ⟨by decide, by decide⟩
  have hatq218 := Has.at (v := (.int c1)) Hq218 hinq218 rfl
  -- pc 20: java/lang/StringUTF16.putChar
  obtain ⟨_, _, ⟨T219, L219, k219, n219⟩, -, X219, ⟨Lc219, hQ219, l219, y219, z219⟩, st219⟩ := Jvm.LawKit.callS X215 hx (y := y1) hown (mvT hZ (W 97 rfl)) (mvT hZ (W 98 rfl)) (mvT hZ (W 76 rfl)) (mvT hZ (W 99 rfl)) (by decide) (backOf (W := 0) (rmput l Z a0 G1 fm hG [] b_211 kb_211 (6 : Int32) ([(.int (((c0 >>> ((0 : Int32) &&& 31)).toInt8.toInt32).toInt8.toInt32)), (.int (((c0 >>> ((8 : Int32) &&& 31)).toInt8.toInt32).toInt8.toInt32)), .int 0, .int 0, .int 0, .int 0] : List Value) (1 : Int32) 2 c1 T215.heap n0 Z216 O216 cv215 g_b_211 (by decide) (by decide) (own_ble rfl) (by decide) (by decide) (own_ble rfl)) hZ (W 99 rfl) (W 76 rfl) (by decide) (by decide)) (g := (mkF m 20 #[.val (.ref a1), .val (.int 1), .val (.int 3), .val (.ref b_211), .val (.int 1)] [.int c1, .int 1, .ref b_211])) rfl (by rw [hml]; rfl) (argsL := [.ref b_211, .int 1, .int c1]) (rest := []) (lenOf pd___BII_V rfl) rfl (by show 2 * 0 + _ ≤ _; exact Nat.le_of_eq rfl) (hB d9_20) (fun _ _ => ⟨rfl, rfl, (by decide : 1 + 0 ≤ _), (by decide : 6 + 0 ≤ _)⟩)
  dsimp only [Pt.U, Pt.locs, Pt.cells, Pt.slots] at X219 l219 y219 z219 st219 hQ219
  subst l219 y219 z219
  obtain ⟨rfl, N219q, K219, f219_0⟩ := hQ219
  have N219 := Fr.app N215 N219q
  have Z220 : n0 ≤ T219.heap.size := Nat.le_trans Z216 K219.1
  have K0_220 : Keep h0 T219.heap [] := K0_216.trans K219 (allS (Or.inr l0_b_211) all0)
  have O220 : Old Z n0 T219.heap := O216.keep K219 (allS g_b_211 all0)
  have cv219 : Arv Z T219.heap b_211 kb_211 .byte (6 : Int32) [(.int (((c0 >>> ((0 : Int32) &&& 31)).toInt8.toInt32).toInt8.toInt32)), (.int (((c0 >>> ((8 : Int32) &&& 31)).toInt8.toInt32).toInt8.toInt32)), (.int (((c1 >>> ((0 : Int32) &&& 31)).toInt8.toInt32).toInt8.toInt32)), (.int (((c1 >>> ((8 : Int32) &&& 31)).toInt8.toInt32).toInt8.toInt32)), .int 0, .int 0] (.int 0) := f219_0
  have f221 := (f217.keep K219 (ninS (Nat.ne_of_lt (Nat.lt_of_lt_of_le V_a1.lt lo_b_211)) nin0))
  obtain ⟨clq222, Arq222, qaq222, Sq222, Nq222, Hq222, Gq222⟩ := id f221
  have hinq222 := inb_of (j := (2 : Int32)) Sq222 ⟨by decide, by decide⟩
  have hatq222 := Has.at (v := (.int c2)) Hq222 hinq222 rfl
  -- pc 20: java/lang/StringUTF16.putChar
  obtain ⟨_, _, ⟨T223, L223, k223, n223⟩, -, X223, ⟨Lc223, hQ223, l223, y223, z223⟩, st223⟩ := Jvm.LawKit.callS X219 hx (y := y1) hown (mvT hZ (W 97 rfl)) (mvT hZ (W 98 rfl)) (mvT hZ (W 76 rfl)) (mvT hZ (W 99 rfl)) (by decide) (backOf (W := 0) (rmput l Z a0 G1 fm hG [] b_211 kb_211 (6 : Int32) ([(.int (((c0 >>> ((0 : Int32) &&& 31)).toInt8.toInt32).toInt8.toInt32)), (.int (((c0 >>> ((8 : Int32) &&& 31)).toInt8.toInt32).toInt8.toInt32)), (.int (((c1 >>> ((0 : Int32) &&& 31)).toInt8.toInt32).toInt8.toInt32)), (.int (((c1 >>> ((8 : Int32) &&& 31)).toInt8.toInt32).toInt8.toInt32)), .int 0, .int 0] : List Value) (2 : Int32) 4 c2 T219.heap n0 Z220 O220 cv219 g_b_211 (by decide) (by decide) (own_ble rfl) (by decide) (by decide) (own_ble rfl)) hZ (W 99 rfl) (W 76 rfl) (by decide) (by decide)) (g := (mkF m 20 #[.val (.ref a1), .val (.int 2), .val (.int 3), .val (.ref b_211), .val (.int 2)] [.int c2, .int 2, .ref b_211])) rfl (by rw [hml]; rfl) (argsL := [.ref b_211, .int 2, .int c2]) (rest := []) (lenOf pd___BII_V rfl) rfl (by show 2 * 0 + _ ≤ _; exact Nat.le_of_eq rfl) (hB d9_20) (fun _ _ => ⟨rfl, rfl, (by decide : 1 + 0 ≤ _), (by decide : 6 + 0 ≤ _)⟩)
  dsimp only [Pt.U, Pt.locs, Pt.cells, Pt.slots] at X223 l223 y223 z223 st223 hQ223
  subst l223 y223 z223
  obtain ⟨rfl, N223q, K223, f223_0⟩ := hQ223
  have N223 := Fr.app N219 N223q
  have Z224 : n0 ≤ T223.heap.size := Nat.le_trans Z220 K223.1
  have K0_224 : Keep h0 T223.heap [] := K0_220.trans K223 (allS (Or.inr l0_b_211) all0)
  have O224 : Old Z n0 T223.heap := O220.keep K223 (allS g_b_211 all0)
  have cv223 : Arv Z T223.heap b_211 kb_211 .byte (6 : Int32) [(.int (((c0 >>> ((0 : Int32) &&& 31)).toInt8.toInt32).toInt8.toInt32)), (.int (((c0 >>> ((8 : Int32) &&& 31)).toInt8.toInt32).toInt8.toInt32)), (.int (((c1 >>> ((0 : Int32) &&& 31)).toInt8.toInt32).toInt8.toInt32)), (.int (((c1 >>> ((8 : Int32) &&& 31)).toInt8.toInt32).toInt8.toInt32)), (.int (((c2 >>> ((0 : Int32) &&& 31)).toInt8.toInt32).toInt8.toInt32)), (.int (((c2 >>> ((8 : Int32) &&& 31)).toInt8.toInt32).toInt8.toInt32))] (.int 0) := f223_0
  obtain ⟨fs, hr, hrun, hended, hW, hsame⟩ := X223.leave (v := some (.ref b_211)) (fun h => by rw [Bd.returns] at h; cases h)
  refine ⟨_, _, castTop (ef_jdk_52_method_14_code_RII m a1 (0 : Int32) (3 : Int32)) ?_, hrun, hended, _, _, rfl, ?_, ⟨_, rfl⟩, hW, hsame.mono (own_ble rfl) (own_ble rfl)⟩
  · show Steps _ _ _ (s₁.setTop (mkF m 0 #[.val (.ref a1), .val (.int 0), .val (.int 3), .unset, .unset] [])) _
    refine XS.iloadN X0.here hx rfl (hB d9_0) rfl ?_
    refine st211 _ ?_
    show Steps _ _ _ (T211.setTop (mkF m 4 #[.val (.ref a1), .val (.int 0), .val (.int 3), .unset, .unset] [.ref b_211])) _
    refine XS.astoreN X211.here hx rfl (hB d9_4) rfl rfl (l' := #[.val (.ref a1), .val (.int 0), .val (.int 3), .val (.ref b_211), .unset]) rfl ?_
    refine XS.iconst X211.here hx rfl (hB d9_5) ?_
    refine XS.istore X211.here hx rfl (hB d9_6) rfl (l' := #[.val (.ref a1), .val (.int 0), .val (.int 3), .val (.ref b_211), .val (.int 0)]) rfl ?_
    refine XS.iload X211.here hx rfl (hB d9_8) rfl ?_
    refine XS.iloadN X211.here hx rfl (hB d9_10) rfl ?_
    refine XS.icmpNo X211.here hx rfl (hB d9_11) rfl (tlt (by decide : (0 : Int32) < (3 : Int32))).2.1 ?_
    refine XS.aloadN X211.here hx rfl (hB d9_14) rfl rfl ?_
    refine XS.iload X211.here hx rfl (hB d9_15) rfl ?_
    refine XS.aloadN X211.here hx rfl (hB d9_17) rfl rfl ?_
    refine XS.iloadN X211.here hx rfl (hB d9_18) rfl ?_
    refine X211.caload hx (j := (0 : Int32)) (v := (.int c0)) (own_cell rfl Arq214.1) (State.isArrayOf_alike hZ.alike Arq214.2.1) Arq214.2.2 hinq214 hatq214 (g := (mkF m 19 #[.val (.ref a1), .val (.int 0), .val (.int 3), .val (.ref b_211), .val (.int 0)] [.int 0, .ref a1, .int 0, .ref b_211])) rfl rfl (hB d9_19) _ ?_
    refine st215 _ ?_
    show Steps _ _ _ (T215.setTop (mkF m 23 #[.val (.ref a1), .val (.int 0), .val (.int 3), .val (.ref b_211), .val (.int 0)] [])) _
    refine XS.iinc X215.here hx rfl (hB d9_23) rfl (l' := #[.val (.ref a1), .val (.int 1), .val (.int 3), .val (.ref b_211), .val (.int 0)]) rfl ?_
    refine XS.iinc X215.here hx rfl (hB d9_26) rfl (l' := #[.val (.ref a1), .val (.int 1), .val (.int 3), .val (.ref b_211), .val (.int 1)]) rfl ?_
    refine XS.goto X215.here hx rfl (pc0 := 29) (pc' := 8) rfl (hB d9_29) (by decide) (by decide) ?_
    refine XS.iload X215.here hx rfl (hB d9_8) rfl ?_
    refine XS.iloadN X215.here hx rfl (hB d9_10) rfl ?_
    refine XS.icmpNo X215.here hx rfl (hB d9_11) rfl (tlt (by decide : (1 : Int32) < (3 : Int32))).2.1 ?_
    refine XS.aloadN X215.here hx rfl (hB d9_14) rfl rfl ?_
    refine XS.iload X215.here hx rfl (hB d9_15) rfl ?_
    refine XS.aloadN X215.here hx rfl (hB d9_17) rfl rfl ?_
    refine XS.iloadN X215.here hx rfl (hB d9_18) rfl ?_
    refine X215.caload hx (j := (1 : Int32)) (v := (.int c1)) (own_cell rfl Arq218.1) (State.isArrayOf_alike hZ.alike Arq218.2.1) Arq218.2.2 hinq218 hatq218 (g := (mkF m 19 #[.val (.ref a1), .val (.int 1), .val (.int 3), .val (.ref b_211), .val (.int 1)] [.int 1, .ref a1, .int 1, .ref b_211])) rfl rfl (hB d9_19) _ ?_
    refine st219 _ ?_
    show Steps _ _ _ (T219.setTop (mkF m 23 #[.val (.ref a1), .val (.int 1), .val (.int 3), .val (.ref b_211), .val (.int 1)] [])) _
    refine XS.iinc X219.here hx rfl (hB d9_23) rfl (l' := #[.val (.ref a1), .val (.int 2), .val (.int 3), .val (.ref b_211), .val (.int 1)]) rfl ?_
    refine XS.iinc X219.here hx rfl (hB d9_26) rfl (l' := #[.val (.ref a1), .val (.int 2), .val (.int 3), .val (.ref b_211), .val (.int 2)]) rfl ?_
    refine XS.goto X219.here hx rfl (pc0 := 29) (pc' := 8) rfl (hB d9_29) (by decide) (by decide) ?_
    refine XS.iload X219.here hx rfl (hB d9_8) rfl ?_
    refine XS.iloadN X219.here hx rfl (hB d9_10) rfl ?_
    refine XS.icmpNo X219.here hx rfl (hB d9_11) rfl (tlt (by decide : (2 : Int32) < (3 : Int32))).2.1 ?_
    refine XS.aloadN X219.here hx rfl (hB d9_14) rfl rfl ?_
    refine XS.iload X219.here hx rfl (hB d9_15) rfl ?_
    refine XS.aloadN X219.here hx rfl (hB d9_17) rfl rfl ?_
    refine XS.iloadN X219.here hx rfl (hB d9_18) rfl ?_
    refine X219.caload hx (j := (2 : Int32)) (v := (.int c2)) (own_cell rfl Arq222.1) (State.isArrayOf_alike hZ.alike Arq222.2.1) Arq222.2.2 hinq222 hatq222 (g := (mkF m 19 #[.val (.ref a1), .val (.int 2), .val (.int 3), .val (.ref b_211), .val (.int 2)] [.int 2, .ref a1, .int 2, .ref b_211])) rfl rfl (hB d9_19) _ ?_
    refine st223 _ ?_
    show Steps _ _ _ (T223.setTop (mkF m 23 #[.val (.ref a1), .val (.int 2), .val (.int 3), .val (.ref b_211), .val (.int 2)] [])) _
    refine XS.iinc X223.here hx rfl (hB d9_23) rfl (l' := #[.val (.ref a1), .val (.int 3), .val (.int 3), .val (.ref b_211), .val (.int 2)]) rfl ?_
    refine XS.iinc X223.here hx rfl (hB d9_26) rfl (l' := #[.val (.ref a1), .val (.int 3), .val (.int 3), .val (.ref b_211), .val (.int 3)]) rfl ?_
    refine XS.goto X223.here hx rfl (pc0 := 29) (pc' := 8) rfl (hB d9_29) (by decide) (by decide) ?_
    refine XS.iload X223.here hx rfl (hB d9_8) rfl ?_
    refine XS.iloadN X223.here hx rfl (hB d9_10) rfl ?_
    refine XS.icmpYes X223.here hx rfl (pc0 := 11) (pc' := 32) rfl (hB d9_11) rfl (flt (by decide : ¬ ((3 : Int32) < (3 : Int32)))).2.1 (by decide) (by decide) ?_
    refine XS.aloadN X223.here hx rfl (hB d9_32) rfl rfl ?_
    exact retOut X223 hx Bd.returns rfl (Or.inr (Or.inr (Or.inr (Or.inr ⟨rfl, rfl, rfl⟩)))) (hB d9_33) hr
  · show Qtob3 Z G1 fm a1 ka c0 c1 c2 h0 n0 _ T223.heap _
    exact ⟨b_211, kb_211, rfl, N223, K0_224, l0_b_211, cv223⟩
def Qc3L3 (Z : State) (G1 : Int32) (fm : Value) (a1 : Addr) (ka : ClassId) (c0 : Int32) (c1 : Int32) (c2 : Int32) (h0 : Heap) (n0 : Nat) (v : Option Value) (h : Heap) (L : List Loc) : Prop := ∃ b : Addr, ∃ kb : ClassId, v = some (.ref b) ∧ Fr n0 L ∧ Keep h0 h [] ∧ h0.size ≤ b ∧ Arv Z h b kb .byte (3 : Int32) [(.int ((c0.toInt8.toInt32).toInt8.toInt32)), (.int ((c1.toInt8.toInt32).toInt8.toInt32)), (.int ((c2.toInt8.toInt32).toInt8.toInt32))] (.int 0)
theorem rmc3L3 (l : Launch) (Z : State) (a0 : Array Value) (G1 : Int32) (fm : Value) (hG : Glob Z a0 G1 fm) (ws : List Jvm.Cond) (a1 : Addr) (ka : ClassId) (c0 : Int32) (c1 : Int32) (c2 : Int32) (h0 : Heap) (n0 : Nat) (Z0 : n0 ≤ h0.size) (X00 : Old Z n0 h0) (V_a1 : Arv Z h0 a1 ka .char (3 : Int32) [.int c0, .int c1, .int c2] (.int 0)) (hl0 : ¬ ((255 : Int32) < c0)) (hl1 : ¬ ((255 : Int32) < c1)) (hl2 : ¬ ((255 : Int32) < c2)) :
    Met l Z h0 y10 jdk_52_method_16_code 6 (some (.array .byte)) ws (Room.mk 1 1 3 18) #[.ref a1, .int 0, .int 3] (Qc3L3 Z G1 fm a1 ka c0 c1 c2 h0 n0) := by
  obtain ⟨hw, O_cs, P_cs, O_as, O_hi, O_lo, O_fm, R_fm⟩ := id hG
  have W := @own_W _ _ hw
  refine own_go "java/lang/StringUTF16" rfl (plainFor_of_name pn_java_lang_StringUTF16) ?_
  intro p e s m below meth c s₁ Bd hx hby hml hown hnm X0 e0 hZ
  have hB := @hb _ _ hby
  have N0 := Fr.nil n0
  obtain ⟨T225, h225, k225, X225, e225, E225, A225, Q225, st225⟩ := newPE X0 hx hZ (W 23 rfl) e0 (g := (mkF m 1 #[.val (.ref a1), .val (.int 0), .val (.int 3), .unset, .unset, .unset] [.int 3])) rfl (hB d10_1) rfl (by decide) (cap := 3) (by decide) (by decide) (by decide) (by decide) (ad := "[B") rfl
  obtain ⟨b225, g225⟩ : ∃ z, z = h0.size := ⟨_, rfl⟩
  rw [← g225] at A225 Q225 st225
  have Z226 : n0 ≤ h225.size := Nat.le_trans Z0 E225.1
  have K0_226 : Keep h0 h225 [] := (Keep.refl h0 []).ext E225
  have O226 : Old Z n0 h225 := X00.ext E225
  have lo_b225 : h0.size ≤ b225 := Nat.le_of_eq g225.symm
  have g_b225 : n0 ≤ b225 := Nat.le_trans Z0 lo_b225
  have l0_b225 : h0.size ≤ b225 := Nat.le_trans (Keep.refl h0 []).1 lo_b225
  have V_b225 : Arv Z h225 b225 k225 .byte (3 : Int32) [.int 0, .int 0, .int 0] (.int 0) := (Arv.new A225 (by decide)).pad (pad_rep [] (.int 0) 3)
  have f228 := (V_a1.ext E225)
  -- pc 9: java/lang/StringUTF16.compress
  obtain ⟨_, _, ⟨T227, L227, k227, n227⟩, -, X227, ⟨Lc227, hQ227, l227, y227, z227⟩, st227⟩ := Jvm.LawKit.callS X225 hx (y := y6) hown (mvT hZ (W 78 rfl)) (mvT hZ (W 79 rfl)) (mvT hZ (W 76 rfl)) (mvT hZ (W 80 rfl)) (by decide) (backOf (W := 0) (rmc5L3 l Z a0 G1 fm hG [] a1 b225 ka k225 c0 c1 c2 h225 n0 Z226 O226 f228 V_b225 g_b225 (Nat.ne_of_lt (Nat.lt_of_lt_of_le V_a1.lt lo_b225)) (by first | assumption | decide | rfl) (by first | assumption | decide | rfl) (by first | assumption | decide | rfl)) hZ (W 80 rfl) (W 76 rfl) (by decide) (by decide)) (g := (mkF m 9 #[.val (.ref a1), .val (.int 0), .val (.int 3), .val (.ref b225), .unset, .unset] [.int 3, .int 0, .ref b225, .int 0, .ref a1])) rfl (by rw [hml]; rfl) (argsL := [.ref a1, .int 0, .ref b225, .int 0, .int 3]) (rest := []) (lenOf pd___CI_BII_I rfl) rfl (by show 2 * 0 + _ ≤ _; exact Nat.le_of_eq rfl) (hB d10_9) (fun _ _ => ⟨rfl, e225, (by decide : 1 + 0 ≤ _), (by decide : 3 + 0 ≤ _)⟩)
  dsimp only [Pt.U, Pt.locs, Pt.cells, Pt.slots] at X227 l227 y227 z227 st227 hQ227
  subst l227 y227 z227
  obtain ⟨rfl, N227q, K227, f227_0⟩ := hQ227
  have N227 := Fr.app N0 N227q
  have Z229 : n0 ≤ T227.heap.size := Nat.le_trans Z226 K227.1
  have K0_229 : Keep h0 T227.heap [] := K0_226.trans K227 (allS (Or.inr l0_b225) all0)
  have O229 : Old Z n0 T227.heap := O226.keep K227 (allS g_b225 all0)
  obtain ⟨fs, hr, hrun, hended, hW, hsame⟩ := X227.leave (v := some (.ref b225)) (fun h => by rw [Bd.returns] at h; cases h)
  refine ⟨_, _, castTop (ef_jdk_52_method_16_code_RII m a1 (0 : Int32) (3 : Int32)) ?_, hrun, hended, _, _, rfl, ?_, ⟨_, rfl⟩, hW, hsame.mono (own_ble rfl) (own_ble rfl)⟩
  · show Steps _ _ _ (s₁.setTop (mkF m 0 #[.val (.ref a1), .val (.int 0), .val (.int 3), .unset, .unset, .unset] [])) _
    refine XS.iloadN X0.here hx rfl (hB d10_0) rfl ?_
    refine st225 _ ?_
    show Steps _ _ _ (T225.setTop (mkF m 3 #[.val (.ref a1), .val (.int 0), .val (.int 3), .unset, .unset, .unset] [.ref b225])) _
    refine XS.astoreN X225.here hx rfl (hB d10_3) rfl rfl (l' := #[.val (.ref a1), .val (.int 0), .val (.int 3), .val (.ref b225), .unset, .unset]) rfl ?_
    refine XS.aloadN X225.here hx rfl (hB d10_4) rfl rfl ?_
    refine XS.iloadN X225.here hx rfl (hB d10_5) rfl ?_
    refine XS.aloadN X225.here hx rfl (hB d10_6) rfl rfl ?_
    refine XS.iconst X225.here hx rfl (hB d10_7) ?_
    refine XS.iloadN X225.here hx rfl (hB d10_8) rfl ?_
    refine st227 _ ?_
    show Steps _ _ _ (T227.setTop (mkF m 12 #[.val (.ref a1), .val (.int 0), .val (.int 3), .val (.ref b225), .unset, .unset] [.int 3])) _
    refine XS.istore X227.here hx rfl (hB d10_12) rfl (l' := #[.val (.ref a1), .val (.int 0), .val (.int 3), .val (.ref b225), .val (.int 3), .unset]) rfl ?_
    refine XS.iload X227.here hx rfl (hB d10_14) rfl ?_
    refine XS.iloadN X227.here hx rfl (hB d10_16) rfl ?_
    refine XS.icmpYes X227.here hx rfl (pc0 := 17) (pc' := 57) rfl (hB d10_17) rfl (teq (by decide : (3 : Int32) = (3 : Int32))).1 (by decide) (by decide) ?_
    refine XS.aloadN X227.here hx rfl (hB d10_57) rfl rfl ?_
    exact retOut X227 hx Bd.returns rfl (Or.inr (Or.inr (Or.inr (Or.inr ⟨rfl, rfl, rfl⟩)))) (hB d10_58) hr
  · show Qc3L3 Z G1 fm a1 ka c0 c1 c2 h0 n0 _ T227.heap _
    exact ⟨b225, k225, rfl, N227, K0_229, l0_b225, f227_0⟩
def Qc3W3 (Z : State) (G1 : Int32) (fm : Value) (a1 : Addr) (ka : ClassId) (c0 : Int32) (c1 : Int32) (c2 : Int32) (h0 : Heap) (n0 : Nat) (v : Option Value) (h : Heap) (L : List Loc) : Prop := ∃ b : Addr, ∃ kb : ClassId, v = some (.ref b) ∧ Fr n0 L ∧ Keep h0 h [] ∧ h0.size ≤ b ∧ Arv Z h b kb .byte (6 : Int32) [(.int (((c0 >>> ((0 : Int32) &&& 31)).toInt8.toInt32).toInt8.toInt32)), (.int (((c0 >>> ((8 : Int32) &&& 31)).toInt8.toInt32).toInt8.toInt32)), (.int (((c1 >>> ((0 : Int32) &&& 31)).toInt8.toInt32).toInt8.toInt32)), (.int (((c1 >>> ((8 : Int32) &&& 31)).toInt8.toInt32).toInt8.toInt32)), (.int (((c2 >>> ((0 : Int32) &&& 31)).toInt8.toInt32).toInt8.toInt32)), (.int (((c2 >>> ((8 : Int32) &&& 31)).toInt8.toInt32).toInt8.toInt32))] (.int 0)
theorem rmc3W3 (l : Launch) (Z : State) (a0 : Array Value) (G1 : Int32) (fm : Value) (hG : Glob Z a0 G1 fm) (ws : List Jvm.Cond) (a1 : Addr) (ka : ClassId) (c0 : Int32) (c1 : Int32) (c2 : Int32) (h0 : Heap) (n0 : Nat) (Z0 : n0 ≤ h0.size) (X00 : Old Z n0 h0) (V_a1 : Arv Z h0 a1 ka .char (3 : Int32) [.int c0, .int c1, .int c2] (.int 0)) (hwid : ¬ (¬ ((255 : Int32) < c0) ∧ ¬ ((255 : Int32) < c1) ∧ ¬ ((255 : Int32) < c2))) (hu : ∀ c ∈ ([c0, c1, c2] : List Int32), own_u16 c) :
    Met l Z h0 y10 jdk_52_method_16_code 6 (some (.array .byte)) ws (Room.mk 3 2 9 40) #[.ref a1, .int 0, .int 3] (Qc3W3 Z G1 fm a1 ka c0 c1 c2 h0 n0) := by
  obtain ⟨hw, O_cs, P_cs, O_as, O_hi, O_lo, O_fm, R_fm⟩ := id hG
  have W := @own_W _ _ hw
  refine own_go "java/lang/StringUTF16" rfl (plainFor_of_name pn_java_lang_StringUTF16) ?_
  intro p e s m below meth c s₁ Bd hx hby hml hown hnm X0 e0 hZ
  have hB := @hb _ _ hby
  have N0 := Fr.nil n0
  obtain ⟨T230, h230, k230, X230, e230, E230, A230, Q230, st230⟩ := newPE X0 hx hZ (W 23 rfl) e0 (g := (mkF m 1 #[.val (.ref a1), .val (.int 0), .val (.int 3), .unset, .unset, .unset] [.int 3])) rfl (hB d10_1) rfl (by decide) (cap := 3) (by decide) (by decide) (by decide) (by decide) (ad := "[B") rfl
  obtain ⟨b230, g230⟩ : ∃ z, z = h0.size := ⟨_, rfl⟩
  rw [← g230] at A230 Q230 st230
  have Z231 : n0 ≤ h230.size := Nat.le_trans Z0 E230.1
  have K0_231 : Keep h0 h230 [] := (Keep.refl h0 []).ext E230
  have O231 : Old Z n0 h230 := X00.ext E230
  have lo_b230 : h0.size ≤ b230 := Nat.le_of_eq g230.symm
  have g_b230 : n0 ≤ b230 := Nat.le_trans Z0 lo_b230
  have l0_b230 : h0.size ≤ b230 := Nat.le_trans (Keep.refl h0 []).1 lo_b230
  have V_b230 : Arv Z h230 b230 k230 .byte (3 : Int32) [.int 0, .int 0, .int 0] (.int 0) := (Arv.new A230 (by decide)).pad (pad_rep [] (.int 0) 3)
  have f233 := (V_a1.ext E230)
  -- pc 9: java/lang/StringUTF16.compress
  obtain ⟨_, _, ⟨T232, L232, k232, n232⟩, -, X232, ⟨Lc232, hQ232, l232, y232, z232⟩, st232⟩ := Jvm.LawKit.callS X230 hx (y := y6) hown (mvT hZ (W 78 rfl)) (mvT hZ (W 79 rfl)) (mvT hZ (W 76 rfl)) (mvT hZ (W 80 rfl)) (by decide) (backOf (W := 0) (rmc5W3 l Z a0 G1 fm hG [] a1 b230 ka k230 c0 c1 c2 h230 n0 Z231 O231 f233 V_b230 g_b230 (Nat.ne_of_lt (Nat.lt_of_lt_of_le V_a1.lt lo_b230)) (by first | assumption | decide | rfl)) hZ (W 80 rfl) (W 76 rfl) (by decide) (by decide)) (g := (mkF m 9 #[.val (.ref a1), .val (.int 0), .val (.int 3), .val (.ref b230), .unset, .unset] [.int 3, .int 0, .ref b230, .int 0, .ref a1])) rfl (by rw [hml]; rfl) (argsL := [.ref a1, .int 0, .ref b230, .int 0, .int 3]) (rest := []) (lenOf pd___CI_BII_I rfl) rfl (by show 2 * 0 + _ ≤ _; exact Nat.le_of_eq rfl) (hB d10_9) (fun _ _ => ⟨rfl, e230, (by decide : 1 + 0 ≤ _), (by decide : 3 + 0 ≤ _)⟩)
  dsimp only [Pt.U, Pt.locs, Pt.cells, Pt.slots] at X232 l232 y232 z232 st232 hQ232
  subst l232 y232 z232
  obtain ⟨j_232, rfl, N232q, K232, f232_0⟩ := hQ232
  have N232 := Fr.app N0 N232q
  have Z234 : n0 ≤ T232.heap.size := Nat.le_trans Z231 K232.1
  have K0_234 : Keep h0 T232.heap [] := K0_231.trans K232 (allS (Or.inr l0_b230) all0)
  have O234 : Old Z n0 T232.heap := O231.keep K232 (allS g_b230 all0)
  have f236 := (f233.keep K232 (ninS (Nat.ne_of_lt (Nat.lt_of_lt_of_le V_a1.lt lo_b230)) nin0))
  -- pc 23: java/lang/StringUTF16.toBytes
  obtain ⟨_, _, ⟨T235, L235, k235, n235⟩, -, X235, ⟨Lc235, hQ235, l235, y235, z235⟩, st235⟩ := Jvm.LawKit.callS X232 hx (y := y9) hown (mvT hZ (W 87 rfl)) (mvT hZ (W 88 rfl)) (mvT hZ (W 76 rfl)) (mvT hZ (W 89 rfl)) (by decide) (backOf (W := 0) (rmtob3 l Z a0 G1 fm hG [] a1 ka c0 c1 c2 T232.heap n0 Z234 O234 f236) hZ (W 89 rfl) (W 76 rfl) (by decide) (by decide)) (g := (mkF m 23 #[.val (.ref a1), .val (.int 0), .val (.int 3), .val (.ref b230), .val (.int j_232), .unset] [.int 3, .int 0, .ref a1])) rfl (by rw [hml]; rfl) (argsL := [.ref a1, .int 0, .int 3]) (rest := []) (lenOf pd___CII__B rfl) rfl (by show 2 * 0 + _ ≤ _; exact Nat.le_of_eq rfl) (hB d10_23) (fun _ _ => ⟨rfl, rfl, (by decide : 1 + 1 ≤ _), (by decide : 3 + 6 ≤ _)⟩)
  dsimp only [Pt.U, Pt.locs, Pt.cells, Pt.slots] at X235 l235 y235 z235 st235 hQ235
  subst l235 y235 z235
  obtain ⟨b_235, kb_235, rfl, N235q, K235, f235_0, f235_1⟩ := hQ235
  have N235 := Fr.app N232 N235q
  have Z237 : n0 ≤ T235.heap.size := Nat.le_trans Z234 K235.1
  have K0_237 : Keep h0 T235.heap [] := K0_234.trans K235 all0
  have O237 : Old Z n0 T235.heap := O234.keep K235 all0
  have lo_b_235 : T232.heap.size ≤ b_235 := f235_0
  have g_b_235 : n0 ≤ b_235 := Nat.le_trans Z234 lo_b_235
  have l0_b_235 : h0.size ≤ b_235 := Nat.le_trans K0_234.1 lo_b_235
  obtain ⟨K_, c_, hi_, hg_, hw_⟩ := id f232_0
  -- pc 32: java/lang/StringUTF16.getChar
  obtain ⟨_, _, ⟨T238, L238, k238, n238⟩, -, X238, ⟨Lc238, hQ238, l238, y238, z238⟩, st238⟩ := Jvm.LawKit.callS X235 hx (y := y0) hown (mvT hZ (W 103 rfl)) (mvT hZ (W 104 rfl)) (mvT hZ (W 76 rfl)) (mvT hZ (W 105 rfl)) (by decide) (backOf (W := 0) (rmgch l Z a0 G1 fm hG [] b_235 kb_235 (6 : Int32) ([(.int (((c0 >>> ((0 : Int32) &&& 31)).toInt8.toInt32).toInt8.toInt32)), (.int (((c0 >>> ((8 : Int32) &&& 31)).toInt8.toInt32).toInt8.toInt32)), (.int (((c1 >>> ((0 : Int32) &&& 31)).toInt8.toInt32).toInt8.toInt32)), (.int (((c1 >>> ((8 : Int32) &&& 31)).toInt8.toInt32).toInt8.toInt32)), (.int (((c2 >>> ((0 : Int32) &&& 31)).toInt8.toInt32).toInt8.toInt32)), (.int (((c2 >>> ((8 : Int32) &&& 31)).toInt8.toInt32).toInt8.toInt32))] : List Value) j_232 ([c0, c1, c2] : List Int32) K_ c_ T235.heap n0 Z237 O237 f235_1 rfl rfl (own_ble rfl) hu hi_ hg_) hZ (W 105 rfl) (W 76 rfl) (by decide) (by decide)) (g := (mkF m 32 #[.val (.ref a1), .val (.int 0), .val (.int 3), .val (.ref b230), .val (.int j_232), .val (.ref b_235)] [.int j_232, .ref b_235])) rfl (by rw [hml]; rfl) (argsL := [.ref b_235, .int j_232]) (rest := []) (lenOf pd___BI_C rfl) rfl (by show 2 * 0 + _ ≤ _; exact Nat.le_of_eq rfl) (hB d10_32) (fun _ _ => ⟨rfl, rfl, (by decide : 2 + 0 ≤ _), (by decide : 9 + 0 ≤ _)⟩)
  dsimp only [Pt.U, Pt.locs, Pt.cells, Pt.slots] at X238 l238 y238 z238 st238 hQ238
  subst l238 y238 z238
  obtain ⟨rfl, N238q, eq238⟩ := hQ238
  have N238 := Fr.app N235 N238q
  obtain ⟨fs, hr, hrun, hended, hW, hsame⟩ := X238.leave (v := some (.ref b_235)) (fun h => by rw [Bd.returns] at h; cases h)
  refine ⟨_, _, castTop (ef_jdk_52_method_16_code_RII m a1 (0 : Int32) (3 : Int32)) ?_, hrun, hended, _, _, rfl, ?_, ⟨_, rfl⟩, hW, hsame.mono (own_ble rfl) (own_ble rfl)⟩
  · show Steps _ _ _ (s₁.setTop (mkF m 0 #[.val (.ref a1), .val (.int 0), .val (.int 3), .unset, .unset, .unset] [])) _
    refine XS.iloadN X0.here hx rfl (hB d10_0) rfl ?_
    refine st230 _ ?_
    show Steps _ _ _ (T230.setTop (mkF m 3 #[.val (.ref a1), .val (.int 0), .val (.int 3), .unset, .unset, .unset] [.ref b230])) _
    refine XS.astoreN X230.here hx rfl (hB d10_3) rfl rfl (l' := #[.val (.ref a1), .val (.int 0), .val (.int 3), .val (.ref b230), .unset, .unset]) rfl ?_
    refine XS.aloadN X230.here hx rfl (hB d10_4) rfl rfl ?_
    refine XS.iloadN X230.here hx rfl (hB d10_5) rfl ?_
    refine XS.aloadN X230.here hx rfl (hB d10_6) rfl rfl ?_
    refine XS.iconst X230.here hx rfl (hB d10_7) ?_
    refine XS.iloadN X230.here hx rfl (hB d10_8) rfl ?_
    refine st232 _ ?_
    show Steps _ _ _ (T232.setTop (mkF m 12 #[.val (.ref a1), .val (.int 0), .val (.int 3), .val (.ref b230), .unset, .unset] [.int j_232])) _
    refine XS.istore X232.here hx rfl (hB d10_12) rfl (l' := #[.val (.ref a1), .val (.int 0), .val (.int 3), .val (.ref b230), .val (.int j_232), .unset]) rfl ?_
    refine XS.iload X232.here hx rfl (hB d10_14) rfl ?_
    refine XS.iloadN X232.here hx rfl (hB d10_16) rfl ?_
    refine XS.icmpNo X232.here hx rfl (hB d10_17) rfl (feq (own_fne (cs := [c0, c1, c2]) (own_ble rfl) f232_0 : ¬ (j_232 = (3 : Int32)))).1 ?_
    refine XS.aloadN X232.here hx rfl (hB d10_20) rfl rfl ?_
    refine XS.iloadN X232.here hx rfl (hB d10_21) rfl ?_
    refine XS.iloadN X232.here hx rfl (hB d10_22) rfl ?_
    refine st235 _ ?_
    show Steps _ _ _ (T235.setTop (mkF m 26 #[.val (.ref a1), .val (.int 0), .val (.int 3), .val (.ref b230), .val (.int j_232), .unset] [.ref b_235])) _
    refine XS.astore X235.here hx rfl (hB d10_26) rfl rfl (l' := #[.val (.ref a1), .val (.int 0), .val (.int 3), .val (.ref b230), .val (.int j_232), .val (.ref b_235)]) rfl ?_
    refine XS.aload X235.here hx rfl (hB d10_28) rfl rfl ?_
    refine XS.iload X235.here hx rfl (hB d10_30) rfl ?_
    refine st238 _ ?_
    show Steps _ _ _ (T238.setTop (mkF m 35 #[.val (.ref a1), .val (.int 0), .val (.int 3), .val (.ref b230), .val (.int j_232), .val (.ref b_235)] [.int c_])) _
    refine XS.sipush X238.here hx rfl (hB d10_35) ?_
    refine XS.icmpYes X238.here hx rfl (pc0 := 38) (pc' := 54) rfl (hB d10_38) rfl (tlt (hw_ : (255 : Int32) < c_)).2.2.1 (by decide) (by decide) ?_
    refine XS.aload X238.here hx rfl (hB d10_54) rfl rfl ?_
    exact retOut X238 hx Bd.returns rfl (Or.inr (Or.inr (Or.inr (Or.inr ⟨rfl, rfl, rfl⟩)))) (hB d10_56) hr
  · show Qc3W3 Z G1 fm a1 ka c0 c1 c2 h0 n0 _ T238.heap _
    rw [eq238]
    exact ⟨b_235, kb_235, rfl, N238, K0_237, l0_b_235, f235_1⟩
def QcfaL3 (Z : State) (G1 : Int32) (fm : Value) (b : Addr) (kb : ClassId) (vs : List Value) (h0 : Heap) (n0 : Nat) (v : Option Value) (h : Heap) (L : List Loc) : Prop := v = some (.int 0) ∧ Fr n0 L ∧ h = h0
theorem rmcfaL3 (l : Launch) (Z : State) (a0 : Array Value) (G1 : Int32) (fm : Value) (hG : Glob Z a0 G1 fm) (ws : List Jvm.Cond) (b : Addr) (kb : ClassId) (vs : List Value) (h0 : Heap) (n0 : Nat) (Z0 : n0 ≤ h0.size) (X00 : Old Z n0 h0) (V_b : Arv Z h0 b kb .byte (3 : Int32) vs (.int 0)) :
    Met l Z h0 y11 jdk_52_method_15_code 2 (some .byte) ws (Room.mk 0 0 0 0) #[.ref b, .int 3] (QcfaL3 Z G1 fm b kb vs h0 n0) := by
  obtain ⟨hw, O_cs, P_cs, O_as, O_hi, O_lo, O_fm, R_fm⟩ := id hG
  have W := @own_W _ _ hw
  refine own_go "java/lang/StringUTF16" rfl (plainFor_of_name pn_java_lang_StringUTF16) ?_
  intro p e s m below meth c s₁ Bd hx hby hml hown hnm X0 e0 hZ
  have hB := @hb _ _ hby
  have N0 := Fr.nil n0
  obtain ⟨clq239, Arq239, qaq239, Sq239, Nq239, Hq239, Gq239⟩ := id V_b
  obtain ⟨fs, hr, hrun, hended, hW, hsame⟩ := X0.leave (v := some (.int 0)) (fun h => by rw [Bd.returns] at h; cases h)
  refine ⟨_, _, castTop (ef_jdk_52_method_15_code_RI m b (3 : Int32)) ?_, hrun, hended, _, _, rfl, ?_, ⟨_, rfl⟩, hW, hsame.mono (own_ble rfl) (own_ble rfl)⟩
  · show Steps _ _ _ (s₁.setTop (mkF m 0 #[.val (.ref b), .val (.int 3)] [])) _
    refine XS.iloadN X0.here hx rfl (hB d11_0) rfl ?_
    refine XS.aloadN X0.here hx rfl (hB d11_1) rfl rfl ?_
    refine X0.arraylength hx (own_cell e0 Arq239.1) (State.isArrayOf_alike hZ.alike Arq239.2.1) (g := (mkF m 2 #[.val (.ref b), .val (.int 3)] [.ref b, .int 3])) rfl rfl (hB d11_2) _ ?_
    rw [len_of Sq239 Nq239]
    refine XS.isub X0.here hx rfl (hB d11_3) rfl ?_
    refine XS.bipush X0.here hx rfl (hB d11_4) ?_
    refine XS.iushr X0.here hx rfl (hB d11_6) rfl ?_
    refine XS.i2b X0.here hx rfl (hB d11_7) rfl ?_
    exact retN X0 hx (t := .byte) Bd.returns (by simp) (hB d11_8) hr
  · show QcfaL3 Z G1 fm b kb vs h0 n0 _ s₁.heap _
    rw [e0]
    exact ⟨rfl, N0, rfl⟩
def QviL3 (Z : State) (G1 : Int32) (fm : Value) (a1 : Addr) (b : Addr) (ka : ClassId) (c0 : Int32) (c1 : Int32) (c2 : Int32) (h0 : Heap) (n0 : Nat) (v : Option Value) (h : Heap) (L : List Loc) : Prop := ∃ t : Addr, ∃ kb : ClassId, v = none ∧ Fr n0 L ∧ Keep h0 h [a1] ∧ Exa Z h a1 "java/lang/String" ∧ Fld Z h a1 "java/lang/String" "coder" "B" (.int 0) ∧ Fld Z h a1 "java/lang/String" "value" "[B" (.ref t) ∧ Arv Z h t kb .byte (3 : Int32) [(.int ((c0.toInt8.toInt32).toInt8.toInt32)), (.int ((c1.toInt8.toInt32).toInt8.toInt32)), (.int ((c2.toInt8.toInt32).toInt8.toInt32))] (.int 0)
theorem rmviL3 (l : Launch) (Z : State) (a0 : Array Value) (G1 : Int32) (fm : Value) (hG : Glob Z a0 G1 fm) (ws : List Jvm.Cond) (a1 : Addr) (b : Addr) (ka : ClassId) (c0 : Int32) (c1 : Int32) (c2 : Int32) (h0 : Heap) (n0 : Nat) (Z0 : n0 ≤ h0.size) (X00 : Old Z n0 h0) (E_a1 : Exa Z h0 a1 "java/lang/String") (g_a1 : n0 ≤ a1) (F_value_a1 : Fld Z h0 a1 "java/lang/String" "value" "[B" .null) (F_coder_a1 : Fld Z h0 a1 "java/lang/String" "coder" "B" (.int 0)) (V_b : Arv Z h0 b ka .char (3 : Int32) [.int c0, .int c1, .int c2] (.int 0)) (ne_b_a1 : b ≠ a1) (hl0 : ¬ ((255 : Int32) < c0)) (hl1 : ¬ ((255 : Int32) < c1)) (hl2 : ¬ ((255 : Int32) < c2)) :
    Met l Z h0 y12 jdk_42_method_149_code 6 none ws (Room.mk 2 1 3 35) #[.ref a1, .ref b, .int 0, .int 3, .null] (QviL3 Z G1 fm a1 b ka c0 c1 c2 h0 n0) := by
  obtain ⟨hw, O_cs, P_cs, O_as, O_hi, O_lo, O_fm, R_fm⟩ := id hG
  have W := @own_W _ _ hw
  refine own_go "java/lang/String" rfl (plainFor_of_name pn_java_lang_String) ?_
  intro p e s m below meth c s₁ Bd hx hby hml hown hnm X0 e0 hZ
  have hB := @hb _ _ hby
  have N0 := Fr.nil n0
  obtain ⟨T240, X240, e240, st240⟩ := initO X0 hx hZ hown (W 19 rfl) (W 20 rfl) (W 21 rfl) e0 (g := (mkF m 1 #[.val (.ref a1), .val (.ref b), .val (.int 0), .val (.int 3), .val .null, .unset] [.ref a1])) rfl (by rw [hml]; rfl) rfl (hB d12_1) (by decide) (W := 0) (by show 2 * 0 + _ ≤ _; exact Nat.le_of_eq rfl) (by decide)
  obtain ⟨T241, X241, e241, st241⟩ := getS2 X240 hx hZ hown (host := "") (Or.inl (W 49 rfl)) Via.refl e240 (O_cs.ext X00.2) (g := (mkF m 27 #[.val (.ref a1), .val (.ref b), .val (.int 0), .val (.int 3), .val .null, .unset] [])) rfl (hB d12_27)
  -- pc 36: java/lang/StringUTF16.compress
  obtain ⟨_, _, ⟨T242, L242, k242, n242⟩, -, X242, ⟨Lc242, hQ242, l242, y242, z242⟩, st242⟩ := Jvm.LawKit.callS X241 hx (y := y10) hown (mvT hZ (W 74 rfl)) (mvT hZ (W 75 rfl)) (mvT hZ (W 76 rfl)) (mvT hZ (W 77 rfl)) (by decide) (backOf (W := 0) (rmc3L3 l Z a0 G1 fm hG [] b ka c0 c1 c2 h0 n0 Z0 X00 V_b (by first | assumption | decide | rfl) (by first | assumption | decide | rfl) (by first | assumption | decide | rfl)) hZ (W 77 rfl) (W 76 rfl) (by decide) (by decide)) (g := (mkF m 36 #[.val (.ref a1), .val (.ref b), .val (.int 0), .val (.int 3), .val .null, .unset] [.int 3, .int 0, .ref b])) rfl (by rw [hml]; rfl) (argsL := [.ref b, .int 0, .int 3]) (rest := []) (lenOf pd___CII__B rfl) rfl (by show 2 * 0 + _ ≤ _; exact Nat.le_of_eq rfl) (hB d12_36) (fun _ _ => ⟨rfl, e241, (by decide : 0 + 1 ≤ _), (by decide : 0 + 3 ≤ _)⟩)
  dsimp only [Pt.U, Pt.locs, Pt.cells, Pt.slots] at X242 l242 y242 z242 st242 hQ242
  subst l242 y242 z242
  obtain ⟨b_242, kb_242, rfl, N242q, K242, f242_0, f242_1⟩ := hQ242
  have N242 := Fr.app N0 N242q
  have Z243 : n0 ≤ T242.heap.size := Nat.le_trans Z0 K242.1
  have K0_243 : Keep h0 T242.heap [a1] := (Keep.refl h0 [a1]).trans K242 all0
  have O243 : Old Z n0 T242.heap := X00.keep K242 all0
  have lo_b_242 : h0.size ≤ b_242 := f242_0
  have g_b_242 : n0 ≤ b_242 := Nat.le_trans Z0 lo_b_242
  have l0_b_242 : h0.size ≤ b_242 := Nat.le_trans (Keep.refl h0 [a1]).1 lo_b_242
  -- pc 45: java/lang/StringUTF16.coderFromArrayLen
  obtain ⟨_, _, ⟨T244, L244, k244, n244⟩, -, X244, ⟨Lc244, hQ244, l244, y244, z244⟩, st244⟩ := Jvm.LawKit.callS X242 hx (y := y11) hown (mvT hZ (W 81 rfl)) (mvT hZ (W 82 rfl)) (mvT hZ (W 76 rfl)) (mvT hZ (W 83 rfl)) (by decide) (backOf (W := 1) (rmcfaL3 l Z a0 G1 fm hG [] b_242 kb_242 ([(.int ((c0.toInt8.toInt32).toInt8.toInt32)), (.int ((c1.toInt8.toInt32).toInt8.toInt32)), (.int ((c2.toInt8.toInt32).toInt8.toInt32))] : List Value) T242.heap n0 Z243 O243 f242_1) hZ (W 83 rfl) (W 76 rfl) (by decide) (by decide)) (g := (mkF m 45 #[.val (.ref a1), .val (.ref b), .val (.int 0), .val (.int 3), .val .null, .val (.ref b_242)] [.int 3, .ref b_242, .ref a1])) rfl (by rw [hml]; rfl) (argsL := [.ref b_242, .int 3]) (rest := [.ref a1]) (lenOf pd___BI_B rfl) rfl (by show 2 * 0 + _ ≤ _; exact Nat.le_of_eq rfl) (hB d12_45) (fun _ _ => ⟨rfl, rfl, (by decide : 1 + 0 ≤ _), (by decide : 3 + 0 ≤ _)⟩)
  dsimp only [Pt.U, Pt.locs, Pt.cells, Pt.slots] at X244 l244 y244 z244 st244 hQ244
  subst l244 y244 z244
  obtain ⟨rfl, N244q, eq244⟩ := hQ244
  have N244 := Fr.app N242 N244q
  have f245 := (E_a1.keep K242)
  have f246 := (F_coder_a1.keep K242 nin0)
  obtain ⟨T247, h247, X247, e247, W247, st247⟩ := putF X244 hx hZ hown (host := "") (Or.inl (W 29 rfl)) Via.refl eq244 f246 f245 (Or.inr ⟨(W 25 rfl), rfl, hnm⟩) (W 9 rfl) (ty := .byte) (by decide) rfl rfl (g := (mkF m 48 #[.val (.ref a1), .val (.ref b), .val (.int 0), .val (.int 3), .val .null, .val (.ref b_242)] [.int 0, .ref a1])) rfl rfl (hB d12_48)
  have Fw247 := f246.same W247
  have Z248 : n0 ≤ h247.size := Nat.le_trans Z243 (Keep.of_wr W247).1
  have K0_248 : Keep h0 h247 [a1] := K0_243.wr W247 (Or.inl (List.mem_of_getElem? (i := 0) rfl))
  have O248 : Old Z n0 h247 := O243.wr W247 g_a1
  have N247 := Fr.snoc X247 N244 g_a1
  have f249 := (f245.wr W247)
  have f250 := ((F_value_a1.keep K242 nin0).other W247 (Or.inr (slot_ne (Or.inr (W 24 rfl)) (Or.inr (W 25 rfl)) (by decide) (t := (.array .byte)) (t' := .byte) (by decide) (by decide))))
  obtain ⟨T251, h251, X251, e251, W251, st251⟩ := putF X247 hx hZ hown (host := "") (Or.inl (W 28 rfl)) Via.refl e247 f250 f249 (Or.inr ⟨(W 24 rfl), rfl, hnm⟩) (W 9 rfl) (ty := (.array .byte)) (by decide) rfl rfl (g := (mkF m 54 #[.val (.ref a1), .val (.ref b), .val (.int 0), .val (.int 3), .val .null, .val (.ref b_242)] [.ref b_242, .ref a1])) rfl rfl (hB d12_54)
  have Fw251 := f250.same W251
  have Z252 : n0 ≤ h251.size := Nat.le_trans Z248 (Keep.of_wr W251).1
  have K0_252 : Keep h0 h251 [a1] := K0_248.wr W251 (Or.inl (List.mem_of_getElem? (i := 0) rfl))
  have O252 : Old Z n0 h251 := O248.wr W251 g_a1
  have N251 := Fr.snoc X251 N247 g_a1
  have f253 := (f249.wr W251)
  have f254 := (Fw247.other W251 (Or.inr (slot_ne (Or.inr (W 25 rfl)) (Or.inr (W 24 rfl)) (by decide) (t := .byte) (t' := (.array .byte)) (by decide) (by decide))))
  have f255 := ((f242_1.other W247 (Ne.symm (Nat.ne_of_lt (Nat.lt_of_lt_of_le E_a1.lt lo_b_242)))).other W251 (Ne.symm (Nat.ne_of_lt (Nat.lt_of_lt_of_le E_a1.lt lo_b_242))))
  obtain ⟨fs, hr, hrun, hended, hW, hsame⟩ := X251.leave (v := none) (fun _ => rfl)
  refine ⟨_, _, castTop (ef_jdk_42_method_149_code_RRIIN m a1 b (0 : Int32) (3 : Int32)) ?_, hrun, hended, _, _, rfl, ?_, ⟨_, rfl⟩, hW, hsame.mono (own_ble rfl) (own_ble rfl)⟩
  · show Steps _ _ _ (s₁.setTop (mkF m 0 #[.val (.ref a1), .val (.ref b), .val (.int 0), .val (.int 3), .val .null, .unset] [])) _
    refine XS.aloadN X0.here hx rfl (hB d12_0) rfl rfl ?_
    refine st240 _ ?_
    show Steps _ _ _ (T240.setTop (mkF m 4 #[.val (.ref a1), .val (.ref b), .val (.int 0), .val (.int 3), .val .null, .unset] [])) _
    refine XS.iloadN X240.here hx rfl (hB d12_4) rfl ?_
    refine XS.ifYes X240.here hx rfl (pc0 := 5) (pc' := 27) rfl (hB d12_5) rfl ((if0 _ _).trans (feq (by decide : ¬ ((3 : Int32) = (0 : Int32)))).2) (by decide) (by decide) ?_
    refine st241 _ ?_
    show Steps _ _ _ (T241.setTop (mkF m 30 #[.val (.ref a1), .val (.ref b), .val (.int 0), .val (.int 3), .val .null, .unset] [.int G1])) _
    refine XS.ifNo X241.here hx rfl (hB d12_30) rfl ((if0 _ _).trans (feq (P_cs : ¬ (G1 = (0 : Int32)))).1) ?_
    refine XS.aloadN X241.here hx rfl (hB d12_33) rfl rfl ?_
    refine XS.iloadN X241.here hx rfl (hB d12_34) rfl ?_
    refine XS.iloadN X241.here hx rfl (hB d12_35) rfl ?_
    refine st242 _ ?_
    show Steps _ _ _ (T242.setTop (mkF m 39 #[.val (.ref a1), .val (.ref b), .val (.int 0), .val (.int 3), .val .null, .unset] [.ref b_242])) _
    refine XS.astore X242.here hx rfl (hB d12_39) rfl rfl (l' := #[.val (.ref a1), .val (.ref b), .val (.int 0), .val (.int 3), .val .null, .val (.ref b_242)]) rfl ?_
    refine XS.aloadN X242.here hx rfl (hB d12_41) rfl rfl ?_
    refine XS.aload X242.here hx rfl (hB d12_42) rfl rfl ?_
    refine XS.iloadN X242.here hx rfl (hB d12_44) rfl ?_
    refine st244 _ ?_
    show Steps _ _ _ (T244.setTop (mkF m 48 #[.val (.ref a1), .val (.ref b), .val (.int 0), .val (.int 3), .val .null, .val (.ref b_242)] [.int 0, .ref a1])) _
    refine st247 _ ?_
    show Steps _ _ _ (T247.setTop (mkF m 51 #[.val (.ref a1), .val (.ref b), .val (.int 0), .val (.int 3), .val .null, .val (.ref b_242)] [])) _
    refine XS.aloadN X247.here hx rfl (hB d12_51) rfl rfl ?_
    refine XS.aload X247.here hx rfl (hB d12_52) rfl rfl ?_
    refine st251 _ ?_
    show Steps _ _ _ (T251.setTop (mkF m 57 #[.val (.ref a1), .val (.ref b), .val (.int 0), .val (.int 3), .val .null, .val (.ref b_242)] [])) _
    exact X251.returnOut hx Bd.returns (hB d12_57) hr
  · show QviL3 Z G1 fm a1 b ka c0 c1 c2 h0 n0 _ T251.heap _
    rw [e251]
    exact ⟨b_242, kb_242, rfl, N251, K0_252, f253, f254, Fw251, f255⟩
def QcfaW3 (Z : State) (G1 : Int32) (fm : Value) (b : Addr) (kb : ClassId) (vs : List Value) (h0 : Heap) (n0 : Nat) (v : Option Value) (h : Heap) (L : List Loc) : Prop := v = some (.int 1) ∧ Fr n0 L ∧ h = h0
theorem rmcfaW3 (l : Launch) (Z : State) (a0 : Array Value) (G1 : Int32) (fm : Value) (hG : Glob Z a0 G1 fm) (ws : List Jvm.Cond) (b : Addr) (kb : ClassId) (vs : List Value) (h0 : Heap) (n0 : Nat) (Z0 : n0 ≤ h0.size) (X00 : Old Z n0 h0) (V_b : Arv Z h0 b kb .byte (6 : Int32) vs (.int 0)) :
    Met l Z h0 y11 jdk_52_method_15_code 2 (some .byte) ws (Room.mk 0 0 0 0) #[.ref b, .int 3] (QcfaW3 Z G1 fm b kb vs h0 n0) := by
  obtain ⟨hw, O_cs, P_cs, O_as, O_hi, O_lo, O_fm, R_fm⟩ := id hG
  have W := @own_W _ _ hw
  refine own_go "java/lang/StringUTF16" rfl (plainFor_of_name pn_java_lang_StringUTF16) ?_
  intro p e s m below meth c s₁ Bd hx hby hml hown hnm X0 e0 hZ
  have hB := @hb _ _ hby
  have N0 := Fr.nil n0
  obtain ⟨clq259, Arq259, qaq259, Sq259, Nq259, Hq259, Gq259⟩ := id V_b
  obtain ⟨fs, hr, hrun, hended, hW, hsame⟩ := X0.leave (v := some (.int 1)) (fun h => by rw [Bd.returns] at h; cases h)
  refine ⟨_, _, castTop (ef_jdk_52_method_15_code_RI m b (3 : Int32)) ?_, hrun, hended, _, _, rfl, ?_, ⟨_, rfl⟩, hW, hsame.mono (own_ble rfl) (own_ble rfl)⟩
  · show Steps _ _ _ (s₁.setTop (mkF m 0 #[.val (.ref b), .val (.int 3)] [])) _
    refine XS.iloadN X0.here hx rfl (hB d11_0) rfl ?_
    refine XS.aloadN X0.here hx rfl (hB d11_1) rfl rfl ?_
    refine X0.arraylength hx (own_cell e0 Arq259.1) (State.isArrayOf_alike hZ.alike Arq259.2.1) (g := (mkF m 2 #[.val (.ref b), .val (.int 3)] [.ref b, .int 3])) rfl rfl (hB d11_2) _ ?_
    rw [len_of Sq259 Nq259]
    refine XS.isub X0.here hx rfl (hB d11_3) rfl ?_
    refine XS.bipush X0.here hx rfl (hB d11_4) ?_
    refine XS.iushr X0.here hx rfl (hB d11_6) rfl ?_
    refine XS.i2b X0.here hx rfl (hB d11_7) rfl ?_
    exact retN X0 hx (t := .byte) Bd.returns (by simp) (hB d11_8) hr
  · show QcfaW3 Z G1 fm b kb vs h0 n0 _ s₁.heap _
    rw [e0]
    exact ⟨rfl, N0, rfl⟩
def QviW3 (Z : State) (G1 : Int32) (fm : Value) (a1 : Addr) (b : Addr) (ka : ClassId) (c0 : Int32) (c1 : Int32) (c2 : Int32) (h0 : Heap) (n0 : Nat) (v : Option Value) (h : Heap) (L : List Loc) : Prop := ∃ t : Addr, ∃ kb : ClassId, v = none ∧ Fr n0 L ∧ Keep h0 h [a1] ∧ Exa Z h a1 "java/lang/String" ∧ Fld Z h a1 "java/lang/String" "coder" "B" (.int 1) ∧ Fld Z h a1 "java/lang/String" "value" "[B" (.ref t) ∧ Arv Z h t kb .byte (6 : Int32) [(.int (((c0 >>> ((0 : Int32) &&& 31)).toInt8.toInt32).toInt8.toInt32)), (.int (((c0 >>> ((8 : Int32) &&& 31)).toInt8.toInt32).toInt8.toInt32)), (.int (((c1 >>> ((0 : Int32) &&& 31)).toInt8.toInt32).toInt8.toInt32)), (.int (((c1 >>> ((8 : Int32) &&& 31)).toInt8.toInt32).toInt8.toInt32)), (.int (((c2 >>> ((0 : Int32) &&& 31)).toInt8.toInt32).toInt8.toInt32)), (.int (((c2 >>> ((8 : Int32) &&& 31)).toInt8.toInt32).toInt8.toInt32))] (.int 0)
theorem rmviW3 (l : Launch) (Z : State) (a0 : Array Value) (G1 : Int32) (fm : Value) (hG : Glob Z a0 G1 fm) (ws : List Jvm.Cond) (a1 : Addr) (b : Addr) (ka : ClassId) (c0 : Int32) (c1 : Int32) (c2 : Int32) (h0 : Heap) (n0 : Nat) (Z0 : n0 ≤ h0.size) (X00 : Old Z n0 h0) (E_a1 : Exa Z h0 a1 "java/lang/String") (g_a1 : n0 ≤ a1) (F_value_a1 : Fld Z h0 a1 "java/lang/String" "value" "[B" .null) (F_coder_a1 : Fld Z h0 a1 "java/lang/String" "coder" "B" (.int 0)) (V_b : Arv Z h0 b ka .char (3 : Int32) [.int c0, .int c1, .int c2] (.int 0)) (ne_b_a1 : b ≠ a1) (hwid : ¬ (¬ ((255 : Int32) < c0) ∧ ¬ ((255 : Int32) < c1) ∧ ¬ ((255 : Int32) < c2))) (hu : ∀ c ∈ ([c0, c1, c2] : List Int32), own_u16 c) :
    Met l Z h0 y12 jdk_42_method_149_code 6 none ws (Room.mk 4 2 9 57) #[.ref a1, .ref b, .int 0, .int 3, .null] (QviW3 Z G1 fm a1 b ka c0 c1 c2 h0 n0) := by
  obtain ⟨hw, O_cs, P_cs, O_as, O_hi, O_lo, O_fm, R_fm⟩ := id hG
  have W := @own_W _ _ hw
  refine own_go "java/lang/String" rfl (plainFor_of_name pn_java_lang_String) ?_
  intro p e s m below meth c s₁ Bd hx hby hml hown hnm X0 e0 hZ
  have hB := @hb _ _ hby
  have N0 := Fr.nil n0
  obtain ⟨T260, X260, e260, st260⟩ := initO X0 hx hZ hown (W 19 rfl) (W 20 rfl) (W 21 rfl) e0 (g := (mkF m 1 #[.val (.ref a1), .val (.ref b), .val (.int 0), .val (.int 3), .val .null, .unset] [.ref a1])) rfl (by rw [hml]; rfl) rfl (hB d12_1) (by decide) (W := 0) (by show 2 * 0 + _ ≤ _; exact Nat.le_of_eq rfl) (by decide)
  obtain ⟨T261, X261, e261, st261⟩ := getS2 X260 hx hZ hown (host := "") (Or.inl (W 49 rfl)) Via.refl e260 (O_cs.ext X00.2) (g := (mkF m 27 #[.val (.ref a1), .val (.ref b), .val (.int 0), .val (.int 3), .val .null, .unset] [])) rfl (hB d12_27)
  -- pc 36: java/lang/StringUTF16.compress
  obtain ⟨_, _, ⟨T262, L262, k262, n262⟩, -, X262, ⟨Lc262, hQ262, l262, y262, z262⟩, st262⟩ := Jvm.LawKit.callS X261 hx (y := y10) hown (mvT hZ (W 74 rfl)) (mvT hZ (W 75 rfl)) (mvT hZ (W 76 rfl)) (mvT hZ (W 77 rfl)) (by decide) (backOf (W := 0) (rmc3W3 l Z a0 G1 fm hG [] b ka c0 c1 c2 h0 n0 Z0 X00 V_b (by first | assumption | decide | rfl) (by first | assumption | decide | rfl)) hZ (W 77 rfl) (W 76 rfl) (by decide) (by decide)) (g := (mkF m 36 #[.val (.ref a1), .val (.ref b), .val (.int 0), .val (.int 3), .val .null, .unset] [.int 3, .int 0, .ref b])) rfl (by rw [hml]; rfl) (argsL := [.ref b, .int 0, .int 3]) (rest := []) (lenOf pd___CII__B rfl) rfl (by show 2 * 0 + _ ≤ _; exact Nat.le_of_eq rfl) (hB d12_36) (fun _ _ => ⟨rfl, e261, (by decide : 0 + 2 ≤ _), (by decide : 0 + 9 ≤ _)⟩)
  dsimp only [Pt.U, Pt.locs, Pt.cells, Pt.slots] at X262 l262 y262 z262 st262 hQ262
  subst l262 y262 z262
  obtain ⟨b_262, kb_262, rfl, N262q, K262, f262_0, f262_1⟩ := hQ262
  have N262 := Fr.app N0 N262q
  have Z263 : n0 ≤ T262.heap.size := Nat.le_trans Z0 K262.1
  have K0_263 : Keep h0 T262.heap [a1] := (Keep.refl h0 [a1]).trans K262 all0
  have O263 : Old Z n0 T262.heap := X00.keep K262 all0
  have lo_b_262 : h0.size ≤ b_262 := f262_0
  have g_b_262 : n0 ≤ b_262 := Nat.le_trans Z0 lo_b_262
  have l0_b_262 : h0.size ≤ b_262 := Nat.le_trans (Keep.refl h0 [a1]).1 lo_b_262
  -- pc 45: java/lang/StringUTF16.coderFromArrayLen
  obtain ⟨_, _, ⟨T264, L264, k264, n264⟩, -, X264, ⟨Lc264, hQ264, l264, y264, z264⟩, st264⟩ := Jvm.LawKit.callS X262 hx (y := y11) hown (mvT hZ (W 81 rfl)) (mvT hZ (W 82 rfl)) (mvT hZ (W 76 rfl)) (mvT hZ (W 83 rfl)) (by decide) (backOf (W := 1) (rmcfaW3 l Z a0 G1 fm hG [] b_262 kb_262 ([(.int (((c0 >>> ((0 : Int32) &&& 31)).toInt8.toInt32).toInt8.toInt32)), (.int (((c0 >>> ((8 : Int32) &&& 31)).toInt8.toInt32).toInt8.toInt32)), (.int (((c1 >>> ((0 : Int32) &&& 31)).toInt8.toInt32).toInt8.toInt32)), (.int (((c1 >>> ((8 : Int32) &&& 31)).toInt8.toInt32).toInt8.toInt32)), (.int (((c2 >>> ((0 : Int32) &&& 31)).toInt8.toInt32).toInt8.toInt32)), (.int (((c2 >>> ((8 : Int32) &&& 31)).toInt8.toInt32).toInt8.toInt32))] : List Value) T262.heap n0 Z263 O263 f262_1) hZ (W 83 rfl) (W 76 rfl) (by decide) (by decide)) (g := (mkF m 45 #[.val (.ref a1), .val (.ref b), .val (.int 0), .val (.int 3), .val .null, .val (.ref b_262)] [.int 3, .ref b_262, .ref a1])) rfl (by rw [hml]; rfl) (argsL := [.ref b_262, .int 3]) (rest := [.ref a1]) (lenOf pd___BI_B rfl) rfl (by show 2 * 0 + _ ≤ _; exact Nat.le_of_eq rfl) (hB d12_45) (fun _ _ => ⟨rfl, rfl, (by decide : 2 + 0 ≤ _), (by decide : 9 + 0 ≤ _)⟩)
  dsimp only [Pt.U, Pt.locs, Pt.cells, Pt.slots] at X264 l264 y264 z264 st264 hQ264
  subst l264 y264 z264
  obtain ⟨rfl, N264q, eq264⟩ := hQ264
  have N264 := Fr.app N262 N264q
  have f265 := (E_a1.keep K262)
  have f266 := (F_coder_a1.keep K262 nin0)
  obtain ⟨T267, h267, X267, e267, W267, st267⟩ := putF X264 hx hZ hown (host := "") (Or.inl (W 29 rfl)) Via.refl eq264 f266 f265 (Or.inr ⟨(W 25 rfl), rfl, hnm⟩) (W 9 rfl) (ty := .byte) (by decide) rfl rfl (g := (mkF m 48 #[.val (.ref a1), .val (.ref b), .val (.int 0), .val (.int 3), .val .null, .val (.ref b_262)] [.int 1, .ref a1])) rfl rfl (hB d12_48)
  have Fw267 := f266.same W267
  have Z268 : n0 ≤ h267.size := Nat.le_trans Z263 (Keep.of_wr W267).1
  have K0_268 : Keep h0 h267 [a1] := K0_263.wr W267 (Or.inl (List.mem_of_getElem? (i := 0) rfl))
  have O268 : Old Z n0 h267 := O263.wr W267 g_a1
  have N267 := Fr.snoc X267 N264 g_a1
  have f269 := (f265.wr W267)
  have f270 := ((F_value_a1.keep K262 nin0).other W267 (Or.inr (slot_ne (Or.inr (W 24 rfl)) (Or.inr (W 25 rfl)) (by decide) (t := (.array .byte)) (t' := .byte) (by decide) (by decide))))
  obtain ⟨T271, h271, X271, e271, W271, st271⟩ := putF X267 hx hZ hown (host := "") (Or.inl (W 28 rfl)) Via.refl e267 f270 f269 (Or.inr ⟨(W 24 rfl), rfl, hnm⟩) (W 9 rfl) (ty := (.array .byte)) (by decide) rfl rfl (g := (mkF m 54 #[.val (.ref a1), .val (.ref b), .val (.int 0), .val (.int 3), .val .null, .val (.ref b_262)] [.ref b_262, .ref a1])) rfl rfl (hB d12_54)
  have Fw271 := f270.same W271
  have Z272 : n0 ≤ h271.size := Nat.le_trans Z268 (Keep.of_wr W271).1
  have K0_272 : Keep h0 h271 [a1] := K0_268.wr W271 (Or.inl (List.mem_of_getElem? (i := 0) rfl))
  have O272 : Old Z n0 h271 := O268.wr W271 g_a1
  have N271 := Fr.snoc X271 N267 g_a1
  have f273 := (f269.wr W271)
  have f274 := (Fw267.other W271 (Or.inr (slot_ne (Or.inr (W 25 rfl)) (Or.inr (W 24 rfl)) (by decide) (t := .byte) (t' := (.array .byte)) (by decide) (by decide))))
  have f275 := ((f262_1.other W267 (Ne.symm (Nat.ne_of_lt (Nat.lt_of_lt_of_le E_a1.lt lo_b_262)))).other W271 (Ne.symm (Nat.ne_of_lt (Nat.lt_of_lt_of_le E_a1.lt lo_b_262))))
  obtain ⟨fs, hr, hrun, hended, hW, hsame⟩ := X271.leave (v := none) (fun _ => rfl)
  refine ⟨_, _, castTop (ef_jdk_42_method_149_code_RRIIN m a1 b (0 : Int32) (3 : Int32)) ?_, hrun, hended, _, _, rfl, ?_, ⟨_, rfl⟩, hW, hsame.mono (own_ble rfl) (own_ble rfl)⟩
  · show Steps _ _ _ (s₁.setTop (mkF m 0 #[.val (.ref a1), .val (.ref b), .val (.int 0), .val (.int 3), .val .null, .unset] [])) _
    refine XS.aloadN X0.here hx rfl (hB d12_0) rfl rfl ?_
    refine st260 _ ?_
    show Steps _ _ _ (T260.setTop (mkF m 4 #[.val (.ref a1), .val (.ref b), .val (.int 0), .val (.int 3), .val .null, .unset] [])) _
    refine XS.iloadN X260.here hx rfl (hB d12_4) rfl ?_
    refine XS.ifYes X260.here hx rfl (pc0 := 5) (pc' := 27) rfl (hB d12_5) rfl ((if0 _ _).trans (feq (by decide : ¬ ((3 : Int32) = (0 : Int32)))).2) (by decide) (by decide) ?_
    refine st261 _ ?_
    show Steps _ _ _ (T261.setTop (mkF m 30 #[.val (.ref a1), .val (.ref b), .val (.int 0), .val (.int 3), .val .null, .unset] [.int G1])) _
    refine XS.ifNo X261.here hx rfl (hB d12_30) rfl ((if0 _ _).trans (feq (P_cs : ¬ (G1 = (0 : Int32)))).1) ?_
    refine XS.aloadN X261.here hx rfl (hB d12_33) rfl rfl ?_
    refine XS.iloadN X261.here hx rfl (hB d12_34) rfl ?_
    refine XS.iloadN X261.here hx rfl (hB d12_35) rfl ?_
    refine st262 _ ?_
    show Steps _ _ _ (T262.setTop (mkF m 39 #[.val (.ref a1), .val (.ref b), .val (.int 0), .val (.int 3), .val .null, .unset] [.ref b_262])) _
    refine XS.astore X262.here hx rfl (hB d12_39) rfl rfl (l' := #[.val (.ref a1), .val (.ref b), .val (.int 0), .val (.int 3), .val .null, .val (.ref b_262)]) rfl ?_
    refine XS.aloadN X262.here hx rfl (hB d12_41) rfl rfl ?_
    refine XS.aload X262.here hx rfl (hB d12_42) rfl rfl ?_
    refine XS.iloadN X262.here hx rfl (hB d12_44) rfl ?_
    refine st264 _ ?_
    show Steps _ _ _ (T264.setTop (mkF m 48 #[.val (.ref a1), .val (.ref b), .val (.int 0), .val (.int 3), .val .null, .val (.ref b_262)] [.int 1, .ref a1])) _
    refine st267 _ ?_
    show Steps _ _ _ (T267.setTop (mkF m 51 #[.val (.ref a1), .val (.ref b), .val (.int 0), .val (.int 3), .val .null, .val (.ref b_262)] [])) _
    refine XS.aloadN X267.here hx rfl (hB d12_51) rfl rfl ?_
    refine XS.aload X267.here hx rfl (hB d12_52) rfl rfl ?_
    refine st271 _ ?_
    show Steps _ _ _ (T271.setTop (mkF m 57 #[.val (.ref a1), .val (.ref b), .val (.int 0), .val (.int 3), .val .null, .val (.ref b_262)] [])) _
    exact X271.returnOut hx Bd.returns (hB d12_57) hr
  · show QviW3 Z G1 fm a1 b ka c0 c1 c2 h0 n0 _ T271.heap _
    rw [e271]
    exact ⟨b_262, kb_262, rfl, N271, K0_272, f273, f274, Fw271, f275⟩
theorem own_all3 {P : Int32 → Prop} {c0 : Int32} {c1 : Int32} {c2 : Int32} (h0 : P c0) (h1 : P c1) (h2 : P c2) : ∀ c ∈ ([c0, c1, c2] : List Int32), P c := by
  intro c hc
  simp only [List.mem_cons, List.not_mem_nil, or_false] at hc
  rcases hc with rfl | rfl | rfl <;> assumption
def Qini3 (Z : State) (G1 : Int32) (fm : Value) (a1 : Addr) (b : Addr) (ka : ClassId) (c0 : Int32) (c1 : Int32) (c2 : Int32) (h0 : Heap) (n0 : Nat) (v : Option Value) (h : Heap) (L : List Loc) : Prop := ∃ t : Addr, ∃ kb : ClassId, ∃ cd : Int32, ∃ z : Int32, ∃ vs : List Value, v = none ∧ Fr n0 L ∧ Keep h0 h [a1] ∧ Exa Z h a1 "java/lang/String" ∧ Fld Z h a1 "java/lang/String" "coder" "B" (.int cd) ∧ Fld Z h a1 "java/lang/String" "value" "[B" (.ref t) ∧ Arv Z h t kb .byte z vs (.int 0) ∧ own_str cd z vs [c0, c1, c2]
theorem rmini3_L (l : Launch) (Z : State) (a0 : Array Value) (G1 : Int32) (fm : Value) (hG : Glob Z a0 G1 fm) (ws : List Jvm.Cond) (a1 : Addr) (b : Addr) (ka : ClassId) (c0 : Int32) (c1 : Int32) (c2 : Int32) (h0 : Heap) (n0 : Nat) (Z0 : n0 ≤ h0.size) (X00 : Old Z n0 h0) (E_a1 : Exa Z h0 a1 "java/lang/String") (g_a1 : n0 ≤ a1) (F_value_a1 : Fld Z h0 a1 "java/lang/String" "value" "[B" .null) (F_coder_a1 : Fld Z h0 a1 "java/lang/String" "coder" "B" (.int 0)) (V_b : Arv Z h0 b ka .char (3 : Int32) [.int c0, .int c1, .int c2] (.int 0)) (ne_b_a1 : b ≠ a1) (hl0 : ¬ ((255 : Int32) < c0)) (hl1 : ¬ ((255 : Int32) < c1)) (hl2 : ¬ ((255 : Int32) < c2)) :
    Met l Z h0 y13 jdk_42_method_3_code 2 none ws (Room.mk 5 2 9 74) #[.ref a1, .ref b] (Qini3 Z G1 fm a1 b ka c0 c1 c2 h0 n0) := by
  obtain ⟨hw, O_cs, P_cs, O_as, O_hi, O_lo, O_fm, R_fm⟩ := id hG
  have W := @own_W _ _ hw
  refine own_go "java/lang/String" rfl (plainFor_of_name pn_java_lang_String) ?_
  intro p e s m below meth c s₁ Bd hx hby hml hown hnm X0 e0 hZ
  have hB := @hb _ _ hby
  have N0 := Fr.nil n0
  obtain ⟨clq256, Arq256, qaq256, Sq256, Nq256, Hq256, Gq256⟩ := id V_b
  -- pc 6: java/lang/String.<init>
  obtain ⟨_, _, ⟨T257, L257, k257, n257⟩, -, X257, ⟨Lc257, hQ257, l257, y257, z257⟩, st257⟩ := X0.specialBack hx (y := y12) rfl hown (mvT hZ (W 15 rfl)) (mvT hZ (W 16 rfl)) (mvT hZ (W 18 rfl)) (by decide) (backOf (W := 0) (rmviL3 l Z a0 G1 fm hG [] a1 b ka c0 c1 c2 h0 n0 Z0 X00 E_a1 g_a1 F_value_a1 F_coder_a1 V_b ne_b_a1 (by first | assumption | decide | rfl) (by first | assumption | decide | rfl) (by first | assumption | decide | rfl)) hZ (W 18 rfl) (W 10 rfl) (by decide) (by decide)) (g := (mkF m 6 #[.val (.ref a1), .val (.ref b)] [.null, .int 3, .int 0, .ref b, .ref a1])) rfl (by rw [hml]; rfl) (Steps.refl _) (a := a1) (argsL := [.ref b, .int 0, .int 3, .null]) (rest := []) (lenOf pd___CIILjava_lang_Void__V rfl) rfl (by show 2 * 0 + _ ≤ _; exact Nat.le_of_eq rfl) (hB d13_6) (fun _ _ => ⟨rfl, e0, (by decide : 0 + 1 ≤ _), (by decide : 0 + 3 ≤ _)⟩)
  dsimp only [Pt.U, Pt.locs, Pt.cells, Pt.slots] at X257 l257 y257 z257 st257 hQ257
  subst l257 y257 z257
  obtain ⟨t_257, kb_257, rfl, N257q, K257, f257_0, f257_1, f257_2, f257_3⟩ := hQ257
  have N257 := Fr.app N0 N257q
  have Z258 : n0 ≤ T257.heap.size := Nat.le_trans Z0 K257.1
  have K0_258 : Keep h0 T257.heap [a1] := (Keep.refl h0 [a1]).trans K257 (allS (Or.inl (List.mem_of_getElem? (i := 0) rfl)) all0)
  have O258 : Old Z n0 T257.heap := X00.keep K257 (allS g_a1 all0)
  obtain ⟨fs, hr, hrun, hended, hW, hsame⟩ := X257.leave (v := none) (fun _ => rfl)
  refine ⟨_, _, castTop (ef_jdk_42_method_3_code_RR m a1 b) ?_, hrun, hended, _, _, rfl, ?_, ⟨_, rfl⟩, hW, hsame.mono (own_ble rfl) (own_ble rfl)⟩
  · show Steps _ _ _ (s₁.setTop (mkF m 0 #[.val (.ref a1), .val (.ref b)] [])) _
    refine XS.aloadN X0.here hx rfl (hB d13_0) rfl rfl ?_
    refine XS.aloadN X0.here hx rfl (hB d13_1) rfl rfl ?_
    refine XS.iconst X0.here hx rfl (hB d13_2) ?_
    refine XS.aloadN X0.here hx rfl (hB d13_3) rfl rfl ?_
    refine X0.arraylength hx (own_cell e0 Arq256.1) (State.isArrayOf_alike hZ.alike Arq256.2.1) (g := (mkF m 4 #[.val (.ref a1), .val (.ref b)] [.ref b, .int 0, .ref b, .ref a1])) rfl rfl (hB d13_4) _ ?_
    rw [len_of Sq256 Nq256]
    refine XS.aconstNull X0.here hx rfl (hB d13_5) ?_
    refine st257.trans ?_
    show Steps _ _ _ (T257.setTop (mkF m 9 #[.val (.ref a1), .val (.ref b)] [])) _
    exact X257.returnOut hx Bd.returns (hB d13_9) hr
  · show Qini3 Z G1 fm a1 b ka c0 c1 c2 h0 n0 _ T257.heap _
    exact ⟨t_257, kb_257, (0 : Int32), (3 : Int32), _, rfl, N257, K0_258, f257_0, f257_1, f257_2, f257_3, Or.inl ⟨rfl, rfl, rfl, own_all3 hl0 hl1 hl2⟩⟩
theorem rmini3_W (l : Launch) (Z : State) (a0 : Array Value) (G1 : Int32) (fm : Value) (hG : Glob Z a0 G1 fm) (ws : List Jvm.Cond) (a1 : Addr) (b : Addr) (ka : ClassId) (c0 : Int32) (c1 : Int32) (c2 : Int32) (h0 : Heap) (n0 : Nat) (Z0 : n0 ≤ h0.size) (X00 : Old Z n0 h0) (E_a1 : Exa Z h0 a1 "java/lang/String") (g_a1 : n0 ≤ a1) (F_value_a1 : Fld Z h0 a1 "java/lang/String" "value" "[B" .null) (F_coder_a1 : Fld Z h0 a1 "java/lang/String" "coder" "B" (.int 0)) (V_b : Arv Z h0 b ka .char (3 : Int32) [.int c0, .int c1, .int c2] (.int 0)) (ne_b_a1 : b ≠ a1) (hwid : ¬ (¬ ((255 : Int32) < c0) ∧ ¬ ((255 : Int32) < c1) ∧ ¬ ((255 : Int32) < c2))) (hu : ∀ c ∈ ([c0, c1, c2] : List Int32), own_u16 c) :
    Met l Z h0 y13 jdk_42_method_3_code 2 none ws (Room.mk 5 2 9 74) #[.ref a1, .ref b] (Qini3 Z G1 fm a1 b ka c0 c1 c2 h0 n0) := by
  obtain ⟨hw, O_cs, P_cs, O_as, O_hi, O_lo, O_fm, R_fm⟩ := id hG
  have W := @own_W _ _ hw
  refine own_go "java/lang/String" rfl (plainFor_of_name pn_java_lang_String) ?_
  intro p e s m below meth c s₁ Bd hx hby hml hown hnm X0 e0 hZ
  have hB := @hb _ _ hby
  have N0 := Fr.nil n0
  obtain ⟨clq276, Arq276, qaq276, Sq276, Nq276, Hq276, Gq276⟩ := id V_b
  -- pc 6: java/lang/String.<init>
  obtain ⟨_, _, ⟨T277, L277, k277, n277⟩, -, X277, ⟨Lc277, hQ277, l277, y277, z277⟩, st277⟩ := X0.specialBack hx (y := y12) rfl hown (mvT hZ (W 15 rfl)) (mvT hZ (W 16 rfl)) (mvT hZ (W 18 rfl)) (by decide) (backOf (W := 0) (rmviW3 l Z a0 G1 fm hG [] a1 b ka c0 c1 c2 h0 n0 Z0 X00 E_a1 g_a1 F_value_a1 F_coder_a1 V_b ne_b_a1 (by first | assumption | decide | rfl) (by first | assumption | decide | rfl)) hZ (W 18 rfl) (W 10 rfl) (by decide) (by decide)) (g := (mkF m 6 #[.val (.ref a1), .val (.ref b)] [.null, .int 3, .int 0, .ref b, .ref a1])) rfl (by rw [hml]; rfl) (Steps.refl _) (a := a1) (argsL := [.ref b, .int 0, .int 3, .null]) (rest := []) (lenOf pd___CIILjava_lang_Void__V rfl) rfl (by show 2 * 0 + _ ≤ _; exact Nat.le_of_eq rfl) (hB d13_6) (fun _ _ => ⟨rfl, e0, (by decide : 0 + 2 ≤ _), (by decide : 0 + 9 ≤ _)⟩)
  dsimp only [Pt.U, Pt.locs, Pt.cells, Pt.slots] at X277 l277 y277 z277 st277 hQ277
  subst l277 y277 z277
  obtain ⟨t_277, kb_277, rfl, N277q, K277, f277_0, f277_1, f277_2, f277_3⟩ := hQ277
  have N277 := Fr.app N0 N277q
  have Z278 : n0 ≤ T277.heap.size := Nat.le_trans Z0 K277.1
  have K0_278 : Keep h0 T277.heap [a1] := (Keep.refl h0 [a1]).trans K277 (allS (Or.inl (List.mem_of_getElem? (i := 0) rfl)) all0)
  have O278 : Old Z n0 T277.heap := X00.keep K277 (allS g_a1 all0)
  obtain ⟨fs, hr, hrun, hended, hW, hsame⟩ := X277.leave (v := none) (fun _ => rfl)
  refine ⟨_, _, castTop (ef_jdk_42_method_3_code_RR m a1 b) ?_, hrun, hended, _, _, rfl, ?_, ⟨_, rfl⟩, hW, hsame.mono (own_ble rfl) (own_ble rfl)⟩
  · show Steps _ _ _ (s₁.setTop (mkF m 0 #[.val (.ref a1), .val (.ref b)] [])) _
    refine XS.aloadN X0.here hx rfl (hB d13_0) rfl rfl ?_
    refine XS.aloadN X0.here hx rfl (hB d13_1) rfl rfl ?_
    refine XS.iconst X0.here hx rfl (hB d13_2) ?_
    refine XS.aloadN X0.here hx rfl (hB d13_3) rfl rfl ?_
    refine X0.arraylength hx (own_cell e0 Arq276.1) (State.isArrayOf_alike hZ.alike Arq276.2.1) (g := (mkF m 4 #[.val (.ref a1), .val (.ref b)] [.ref b, .int 0, .ref b, .ref a1])) rfl rfl (hB d13_4) _ ?_
    rw [len_of Sq276 Nq276]
    refine XS.aconstNull X0.here hx rfl (hB d13_5) ?_
    refine st277.trans ?_
    show Steps _ _ _ (T277.setTop (mkF m 9 #[.val (.ref a1), .val (.ref b)] [])) _
    exact X277.returnOut hx Bd.returns (hB d13_9) hr
  · show Qini3 Z G1 fm a1 b ka c0 c1 c2 h0 n0 _ T277.heap _
    exact ⟨t_277, kb_277, (1 : Int32), (6 : Int32), _, rfl, N277, K0_278, f277_0, f277_1, f277_2, f277_3, Or.inr ⟨rfl, rfl, rfl⟩⟩
theorem rmini3 (l : Launch) (Z : State) (a0 : Array Value) (G1 : Int32) (fm : Value) (hG : Glob Z a0 G1 fm) (ws : List Jvm.Cond) (a1 : Addr) (b : Addr) (ka : ClassId) (c0 : Int32) (c1 : Int32) (c2 : Int32) (h0 : Heap) (n0 : Nat) (Z0 : n0 ≤ h0.size) (X00 : Old Z n0 h0) (E_a1 : Exa Z h0 a1 "java/lang/String") (g_a1 : n0 ≤ a1) (F_value_a1 : Fld Z h0 a1 "java/lang/String" "value" "[B" .null) (F_coder_a1 : Fld Z h0 a1 "java/lang/String" "coder" "B" (.int 0)) (V_b : Arv Z h0 b ka .char (3 : Int32) [.int c0, .int c1, .int c2] (.int 0)) (ne_b_a1 : b ≠ a1) (hu : ∀ c ∈ ([c0, c1, c2] : List Int32), own_u16 c) :
    Met l Z h0 y13 jdk_42_method_3_code 2 none ws (Room.mk 5 2 9 74) #[.ref a1, .ref b] (Qini3 Z G1 fm a1 b ka c0 c1 c2 h0 n0) := by
  by_cases hwid : (¬ ((255 : Int32) < c0) ∧ ¬ ((255 : Int32) < c1) ∧ ¬ ((255 : Int32) < c2))
  · obtain ⟨hl0, hl1, hl2⟩ := hwid
    exact rmini3_L l Z a0 G1 fm hG ws a1 b ka c0 c1 c2 h0 n0 Z0 X00 E_a1 g_a1 F_value_a1 F_coder_a1 V_b ne_b_a1 hl0 hl1 hl2
  · exact rmini3_W l Z a0 G1 fm hG ws a1 b ka c0 c1 c2 h0 n0 Z0 X00 E_a1 g_a1 F_value_a1 F_coder_a1 V_b ne_b_a1 hwid hu
def Qc5L4 (Z : State) (G1 : Int32) (fm : Value) (a1 : Addr) (a2 : Addr) (ka : ClassId) (kb : ClassId) (c0 : Int32) (c1 : Int32) (c2 : Int32) (c3 : Int32) (h0 : Heap) (n0 : Nat) (v : Option Value) (h : Heap) (L : List Loc) : Prop := v = some (.int 4) ∧ Fr n0 L ∧ Keep h0 h [a2] ∧ Arv Z h a2 kb .byte (4 : Int32) [(.int ((c0.toInt8.toInt32).toInt8.toInt32)), (.int ((c1.toInt8.toInt32).toInt8.toInt32)), (.int ((c2.toInt8.toInt32).toInt8.toInt32)), (.int ((c3.toInt8.toInt32).toInt8.toInt32))] (.int 0)
theorem rmc5L4 (l : Launch) (Z : State) (a0 : Array Value) (G1 : Int32) (fm : Value) (hG : Glob Z a0 G1 fm) (ws : List Jvm.Cond) (a1 : Addr) (a2 : Addr) (ka : ClassId) (kb : ClassId) (c0 : Int32) (c1 : Int32) (c2 : Int32) (c3 : Int32) (h0 : Heap) (n0 : Nat) (Z0 : n0 ≤ h0.size) (X00 : Old Z n0 h0) (V_a1 : Arv Z h0 a1 ka .char (4 : Int32) [.int c0, .int c1, .int c2, .int c3] (.int 0)) (V_a2 : Arv Z h0 a2 kb .byte (4 : Int32) [.int 0, .int 0, .int 0, .int 0] (.int 0)) (g_a2 : n0 ≤ a2) (ne_a1_a2 : a1 ≠ a2) (hl0 : ¬ ((255 : Int32) < c0)) (hl1 : ¬ ((255 : Int32) < c1)) (hl2 : ¬ ((255 : Int32) < c2)) (hl3 : ¬ ((255 : Int32) < c3)) :
    Met l Z h0 y6 jdk_52_method_21_code 7 (some .int) ws (Room.mk 0 0 0 0) #[.ref a1, .int 0, .ref a2, .int 0, .int 4] (Qc5L4 Z G1 fm a1 a2 ka kb c0 c1 c2 c3 h0 n0) := by
  obtain ⟨hw, O_cs, P_cs, O_as, O_hi, O_lo, O_fm, R_fm⟩ := id hG
  have W := @own_W _ _ hw
  refine own_go "java/lang/StringUTF16" rfl (plainFor_of_name pn_java_lang_StringUTF16) ?_
  intro p e s m below meth c s₁ Bd hx hby hml hown hnm X0 e0 hZ
  have hB := @hb _ _ hby
  have N0 := Fr.nil n0
  obtain ⟨clq279, Arq279, qaq279, Sq279, Nq279, Hq279, Gq279⟩ := id V_a1
  have hinq279 := inb_of (j := (0 : Int32)) Sq279 ⟨by decide, by decide⟩
  have hatq279 := Has.at (v := (.int c0)) Hq279 hinq279 rfl
  obtain ⟨clq280, Arq280, qaq280, Sq280, Nq280, Hq280, Gq280⟩ := id V_a2
  have hinq280 := inb_of (j := (0 : Int32)) Sq280 ⟨by decide, by decide⟩
  obtain ⟨T281, h281, X281, e281, W281, st281⟩ := stB X0 hx hZ e0 Arq280 (j := (0 : Int32)) hinq280 (g := (mkF m 31 #[.val (.ref a1), .val (.int 0), .val (.ref a2), .val (.int 0), .val (.int 4), .val (.int 0), .val (.int c0)] [(.int (c0.toInt8.toInt32)), .int 0, .ref a2])) rfl rfl (hB d6_31)
  have V281 : Arv Z h281 a2 kb .byte (4 : Int32) [(.int ((c0.toInt8.toInt32).toInt8.toInt32)), .int 0, .int 0, .int 0] (.int 0) := Arv.set Arq280 qaq280 Sq280 Nq280 Hq280 Gq280 (fits_nar_byte _) W281 0 rfl (own_ble rfl)
  have Z282 : n0 ≤ h281.size := Nat.le_trans Z0 (Keep.of_wr W281).1
  have K0_282 : Keep h0 h281 [a2] := (Keep.refl h0 [a2]).wr W281 (Or.inl (List.mem_of_getElem? (i := 0) rfl))
  have O282 : Old Z n0 h281 := X00.wr W281 g_a2
  have N281 := Fr.snoc X281 N0 g_a2
  have f283 := (V_a1.other W281 ne_a1_a2)
  obtain ⟨clq284, Arq284, qaq284, Sq284, Nq284, Hq284, Gq284⟩ := id f283
  have hinq284 := inb_of (j := (1 : Int32)) Sq284 ⟨by decide, by decide⟩
  have hatq284 := Has.at (v := (.int c1)) Hq284 hinq284 rfl
  obtain ⟨clq285, Arq285, qaq285, Sq285, Nq285, Hq285, Gq285⟩ := id V281
  have hinq285 := inb_of (j := (1 : Int32)) Sq285 ⟨by decide, by decide⟩
  obtain ⟨T286, h286, X286, e286, W286, st286⟩ := stB X281 hx hZ e281 Arq285 (j := (1 : Int32)) hinq285 (g := (mkF m 31 #[.val (.ref a1), .val (.int 1), .val (.ref a2), .val (.int 1), .val (.int 4), .val (.int 1), .val (.int c1)] [(.int (c1.toInt8.toInt32)), .int 1, .ref a2])) rfl rfl (hB d6_31)
  have V286 : Arv Z h286 a2 kb .byte (4 : Int32) [(.int ((c0.toInt8.toInt32).toInt8.toInt32)), (.int ((c1.toInt8.toInt32).toInt8.toInt32)), .int 0, .int 0] (.int 0) := Arv.set Arq285 qaq285 Sq285 Nq285 Hq285 Gq285 (fits_nar_byte _) W286 1 rfl (own_ble rfl)
  have Z287 : n0 ≤ h286.size := Nat.le_trans Z282 (Keep.of_wr W286).1
  have K0_287 : Keep h0 h286 [a2] := K0_282.wr W286 (Or.inl (List.mem_of_getElem? (i := 0) rfl))
  have O287 : Old Z n0 h286 := O282.wr W286 g_a2
  have N286 := Fr.snoc X286 N281 g_a2
  have f288 := (f283.other W286 ne_a1_a2)
  obtain ⟨clq289, Arq289, qaq289, Sq289, Nq289, Hq289, Gq289⟩ := id f288
  have hinq289 := inb_of (j := (2 : Int32)) Sq289 ⟨by decide, by decide⟩
  have hatq289 := Has.at (v := (.int c2)) Hq289 hinq289 rfl
  obtain ⟨clq290, Arq290, qaq290, Sq290, Nq290, Hq290, Gq290⟩ := id V286
  have hinq290 := inb_of (j := (2 : Int32)) Sq290 ⟨by decide, by decide⟩
  obtain ⟨T291, h291, X291, e291, W291, st291⟩ := stB X286 hx hZ e286 Arq290 (j := (2 : Int32)) hinq290 (g := (mkF m 31 #[.val (.ref a1), .val (.int 2), .val (.ref a2), .val (.int 2), .val (.int 4), .val (.int 2), .val (.int c2)] [(.int (c2.toInt8.toInt32)), .int 2, .ref a2])) rfl rfl (hB d6_31)
  have V291 : Arv Z h291 a2 kb .byte (4 : Int32) [(.int ((c0.toInt8.toInt32).toInt8.toInt32)), (.int ((c1.toInt8.toInt32).toInt8.toInt32)), (.int ((c2.toInt8.toInt32).toInt8.toInt32)), .int 0] (.int 0) := Arv.set Arq290 qaq290 Sq290 Nq290 Hq290 Gq290 (fits_nar_byte _) W291 2 rfl (own_ble rfl)
  have Z292 : n0 ≤ h291.size := Nat.le_trans Z287 (Keep.of_wr W291).1
  have K0_292 : Keep h0 h291 [a2] := K0_287.wr W291 (Or.inl (List.mem_of_getElem? (i := 0) rfl))
  have O292 : Old Z n0 h291 := O287.wr W291 g_a2
  have N291 := Fr.snoc X291 N286 g_a2
  have f293 := (f288.other W291 ne_a1_a2)
  obtain ⟨clq294, Arq294, qaq294, Sq294, Nq294, Hq294, Gq294⟩ := id f293
  have hinq294 := inb_of (j := (3 : Int32)) Sq294 ⟨by decide, by decide⟩
  have hatq294 := Has.at (v := (.int c3)) Hq294 hinq294 rfl
  obtain ⟨clq295, Arq295, qaq295, Sq295, Nq295, Hq295, Gq295⟩ := id V291
  have hinq295 := inb_of (j := (3 : Int32)) Sq295 ⟨by decide, by decide⟩
  obtain ⟨T296, h296, X296, e296, W296, st296⟩ := stB X291 hx hZ e291 Arq295 (j := (3 : Int32)) hinq295 (g := (mkF m 31 #[.val (.ref a1), .val (.int 3), .val (.ref a2), .val (.int 3), .val (.int 4), .val (.int 3), .val (.int c3)] [(.int (c3.toInt8.toInt32)), .int 3, .ref a2])) rfl rfl (hB d6_31)
  have V296 : Arv Z h296 a2 kb .byte (4 : Int32) [(.int ((c0.toInt8.toInt32).toInt8.toInt32)), (.int ((c1.toInt8.toInt32).toInt8.toInt32)), (.int ((c2.toInt8.toInt32).toInt8.toInt32)), (.int ((c3.toInt8.toInt32).toInt8.toInt32))] (.int 0) := Arv.set Arq295 qaq295 Sq295 Nq295 Hq295 Gq295 (fits_nar_byte _) W296 3 rfl (own_ble rfl)
  have Z297 : n0 ≤ h296.size := Nat.le_trans Z292 (Keep.of_wr W296).1
  have K0_297 : Keep h0 h296 [a2] := K0_292.wr W296 (Or.inl (List.mem_of_getElem? (i := 0) rfl))
  have O297 : Old Z n0 h296 := O292.wr W296 g_a2
  have N296 := Fr.snoc X296 N291 g_a2
  obtain ⟨fs, hr, hrun, hended, hW, hsame⟩ := X296.leave (v := some (.int 4)) (fun h => by rw [Bd.returns] at h; cases h)
  refine ⟨_, _, castTop (ef_jdk_52_method_21_code_RIRII m a1 (0 : Int32) a2 (0 : Int32) (4 : Int32)) ?_, hrun, hended, _, _, rfl, ?_, ⟨_, rfl⟩, hW, hsame.mono (own_ble rfl) (own_ble rfl)⟩
  · show Steps _ _ _ (s₁.setTop (mkF m 0 #[.val (.ref a1), .val (.int 0), .val (.ref a2), .val (.int 0), .val (.int 4), .unset, .unset] [])) _
    refine XS.iconst X0.here hx rfl (hB d6_0) ?_
    refine XS.istore X0.here hx rfl (hB d6_1) rfl (l' := #[.val (.ref a1), .val (.int 0), .val (.ref a2), .val (.int 0), .val (.int 4), .val (.int 0), .unset]) rfl ?_
    refine XS.iload X0.here hx rfl (hB d6_3) rfl ?_
    refine XS.iload X0.here hx rfl (hB d6_5) rfl ?_
    refine XS.icmpNo X0.here hx rfl (hB d6_7) rfl (tlt (by decide : (0 : Int32) < (4 : Int32))).2.1 ?_
    refine XS.aloadN X0.here hx rfl (hB d6_10) rfl rfl ?_
    refine XS.iloadN X0.here hx rfl (hB d6_11) rfl ?_
    refine X0.caload hx (j := (0 : Int32)) (v := (.int c0)) (own_cell e0 Arq279.1) (State.isArrayOf_alike hZ.alike Arq279.2.1) Arq279.2.2 hinq279 hatq279 (g := (mkF m 12 #[.val (.ref a1), .val (.int 0), .val (.ref a2), .val (.int 0), .val (.int 4), .val (.int 0), .unset] [.int 0, .ref a1])) rfl rfl (hB d6_12) _ ?_
    refine XS.istore X0.here hx rfl (hB d6_13) rfl (l' := #[.val (.ref a1), .val (.int 0), .val (.ref a2), .val (.int 0), .val (.int 4), .val (.int 0), .val (.int c0)]) rfl ?_
    refine XS.iload X0.here hx rfl (hB d6_15) rfl ?_
    refine XS.sipush X0.here hx rfl (hB d6_17) ?_
    refine XS.icmpYes X0.here hx rfl (pc0 := 20) (pc' := 26) rfl (hB d6_20) rfl (flt (hl0 : ¬ ((255 : Int32) < c0))).2.2.2 (by decide) (by decide) ?_
    refine XS.aloadN X0.here hx rfl (hB d6_26) rfl rfl ?_
    refine XS.iloadN X0.here hx rfl (hB d6_27) rfl ?_
    refine XS.iload X0.here hx rfl (hB d6_28) rfl ?_
    refine XS.i2b X0.here hx rfl (hB d6_30) rfl ?_
    show Steps _ _ _ (s₁.setTop (mkF m 31 #[.val (.ref a1), .val (.int 0), .val (.ref a2), .val (.int 0), .val (.int 4), .val (.int 0), .val (.int c0)] [(.int (c0.toInt8.toInt32)), .int 0, .ref a2])) _
    refine st281 _ ?_
    show Steps _ _ _ (T281.setTop (mkF m 32 #[.val (.ref a1), .val (.int 0), .val (.ref a2), .val (.int 0), .val (.int 4), .val (.int 0), .val (.int c0)] [])) _
    refine XS.iinc X281.here hx rfl (hB d6_32) rfl (l' := #[.val (.ref a1), .val (.int 1), .val (.ref a2), .val (.int 0), .val (.int 4), .val (.int 0), .val (.int c0)]) rfl ?_
    refine XS.iinc X281.here hx rfl (hB d6_35) rfl (l' := #[.val (.ref a1), .val (.int 1), .val (.ref a2), .val (.int 1), .val (.int 4), .val (.int 0), .val (.int c0)]) rfl ?_
    refine XS.iinc X281.here hx rfl (hB d6_38) rfl (l' := #[.val (.ref a1), .val (.int 1), .val (.ref a2), .val (.int 1), .val (.int 4), .val (.int 1), .val (.int c0)]) rfl ?_
    refine XS.goto X281.here hx rfl (pc0 := 41) (pc' := 3) rfl (hB d6_41) (by decide) (by decide) ?_
    refine XS.iload X281.here hx rfl (hB d6_3) rfl ?_
    refine XS.iload X281.here hx rfl (hB d6_5) rfl ?_
    refine XS.icmpNo X281.here hx rfl (hB d6_7) rfl (tlt (by decide : (1 : Int32) < (4 : Int32))).2.1 ?_
    refine XS.aloadN X281.here hx rfl (hB d6_10) rfl rfl ?_
    refine XS.iloadN X281.here hx rfl (hB d6_11) rfl ?_
    refine X281.caload hx (j := (1 : Int32)) (v := (.int c1)) (own_cell e281 Arq284.1) (State.isArrayOf_alike hZ.alike Arq284.2.1) Arq284.2.2 hinq284 hatq284 (g := (mkF m 12 #[.val (.ref a1), .val (.int 1), .val (.ref a2), .val (.int 1), .val (.int 4), .val (.int 1), .val (.int c0)] [.int 1, .ref a1])) rfl rfl (hB d6_12) _ ?_
    refine XS.istore X281.here hx rfl (hB d6_13) rfl (l' := #[.val (.ref a1), .val (.int 1), .val (.ref a2), .val (.int 1), .val (.int 4), .val (.int 1), .val (.int c1)]) rfl ?_
    refine XS.iload X281.here hx rfl (hB d6_15) rfl ?_
    refine XS.sipush X281.here hx rfl (hB d6_17) ?_
    refine XS.icmpYes X281.here hx rfl (pc0 := 20) (pc' := 26) rfl (hB d6_20) rfl (flt (hl1 : ¬ ((255 : Int32) < c1))).2.2.2 (by decide) (by decide) ?_
    refine XS.aloadN X281.here hx rfl (hB d6_26) rfl rfl ?_
    refine XS.iloadN X281.here hx rfl (hB d6_27) rfl ?_
    show Steps _ _ _ (T281.setTop (mkF m 28 #[.val (.ref a1), .val (.int 1), .val (.ref a2), .val (.int 1), .val (.int 4), .val (.int 1), .val (.int c1)] [.int 1, .ref a2])) _
    refine XS.iload X281.here hx rfl (hB d6_28) rfl ?_
    refine XS.i2b X281.here hx rfl (hB d6_30) rfl ?_
    refine st286 _ ?_
    show Steps _ _ _ (T286.setTop (mkF m 32 #[.val (.ref a1), .val (.int 1), .val (.ref a2), .val (.int 1), .val (.int 4), .val (.int 1), .val (.int c1)] [])) _
    refine XS.iinc X286.here hx rfl (hB d6_32) rfl (l' := #[.val (.ref a1), .val (.int 2), .val (.ref a2), .val (.int 1), .val (.int 4), .val (.int 1), .val (.int c1)]) rfl ?_
    refine XS.iinc X286.here hx rfl (hB d6_35) rfl (l' := #[.val (.ref a1), .val (.int 2), .val (.ref a2), .val (.int 2), .val (.int 4), .val (.int 1), .val (.int c1)]) rfl ?_
    refine XS.iinc X286.here hx rfl (hB d6_38) rfl (l' := #[.val (.ref a1), .val (.int 2), .val (.ref a2), .val (.int 2), .val (.int 4), .val (.int 2), .val (.int c1)]) rfl ?_
    refine XS.goto X286.here hx rfl (pc0 := 41) (pc' := 3) rfl (hB d6_41) (by decide) (by decide) ?_
    refine XS.iload X286.here hx rfl (hB d6_3) rfl ?_
    refine XS.iload X286.here hx rfl (hB d6_5) rfl ?_
    refine XS.icmpNo X286.here hx rfl (hB d6_7) rfl (tlt (by decide : (2 : Int32) < (4 : Int32))).2.1 ?_
    refine XS.aloadN X286.here hx rfl (hB d6_10) rfl rfl ?_
    refine XS.iloadN X286.here hx rfl (hB d6_11) rfl ?_
    refine X286.caload hx (j := (2 : Int32)) (v := (.int c2)) (own_cell e286 Arq289.1) (State.isArrayOf_alike hZ.alike Arq289.2.1) Arq289.2.2 hinq289 hatq289 (g := (mkF m 12 #[.val (.ref a1), .val (.int 2), .val (.ref a2), .val (.int 2), .val (.int 4), .val (.int 2), .val (.int c1)] [.int 2, .ref a1])) rfl rfl (hB d6_12) _ ?_
    refine XS.istore X286.here hx rfl (hB d6_13) rfl (l' := #[.val (.ref a1), .val (.int 2), .val (.ref a2), .val (.int 2), .val (.int 4), .val (.int 2), .val (.int c2)]) rfl ?_
    refine XS.iload X286.here hx rfl (hB d6_15) rfl ?_
    refine XS.sipush X286.here hx rfl (hB d6_17) ?_
    refine XS.icmpYes X286.here hx rfl (pc0 := 20) (pc' := 26) rfl (hB d6_20) rfl (flt (hl2 : ¬ ((255 : Int32) < c2))).2.2.2 (by decide) (by decide) ?_
    refine XS.aloadN X286.here hx rfl (hB d6_26) rfl rfl ?_
    refine XS.iloadN X286.here hx rfl (hB d6_27) rfl ?_
    show Steps _ _ _ (T286.setTop (mkF m 28 #[.val (.ref a1), .val (.int 2), .val (.ref a2), .val (.int 2), .val (.int 4), .val (.int 2), .val (.int c2)] [.int 2, .ref a2])) _
    refine XS.iload X286.here hx rfl (hB d6_28) rfl ?_
    refine XS.i2b X286.here hx rfl (hB d6_30) rfl ?_
    refine st291 _ ?_
    show Steps _ _ _ (T291.setTop (mkF m 32 #[.val (.ref a1), .val (.int 2), .val (.ref a2), .val (.int 2), .val (.int 4), .val (.int 2), .val (.int c2)] [])) _
    refine XS.iinc X291.here hx rfl (hB d6_32) rfl (l' := #[.val (.ref a1), .val (.int 3), .val (.ref a2), .val (.int 2), .val (.int 4), .val (.int 2), .val (.int c2)]) rfl ?_
    refine XS.iinc X291.here hx rfl (hB d6_35) rfl (l' := #[.val (.ref a1), .val (.int 3), .val (.ref a2), .val (.int 3), .val (.int 4), .val (.int 2), .val (.int c2)]) rfl ?_
    refine XS.iinc X291.here hx rfl (hB d6_38) rfl (l' := #[.val (.ref a1), .val (.int 3), .val (.ref a2), .val (.int 3), .val (.int 4), .val (.int 3), .val (.int c2)]) rfl ?_
    refine XS.goto X291.here hx rfl (pc0 := 41) (pc' := 3) rfl (hB d6_41) (by decide) (by decide) ?_
    refine XS.iload X291.here hx rfl (hB d6_3) rfl ?_
    refine XS.iload X291.here hx rfl (hB d6_5) rfl ?_
    refine XS.icmpNo X291.here hx rfl (hB d6_7) rfl (tlt (by decide : (3 : Int32) < (4 : Int32))).2.1 ?_
    refine XS.aloadN X291.here hx rfl (hB d6_10) rfl rfl ?_
    refine XS.iloadN X291.here hx rfl (hB d6_11) rfl ?_
    refine X291.caload hx (j := (3 : Int32)) (v := (.int c3)) (own_cell e291 Arq294.1) (State.isArrayOf_alike hZ.alike Arq294.2.1) Arq294.2.2 hinq294 hatq294 (g := (mkF m 12 #[.val (.ref a1), .val (.int 3), .val (.ref a2), .val (.int 3), .val (.int 4), .val (.int 3), .val (.int c2)] [.int 3, .ref a1])) rfl rfl (hB d6_12) _ ?_
    refine XS.istore X291.here hx rfl (hB d6_13) rfl (l' := #[.val (.ref a1), .val (.int 3), .val (.ref a2), .val (.int 3), .val (.int 4), .val (.int 3), .val (.int c3)]) rfl ?_
    refine XS.iload X291.here hx rfl (hB d6_15) rfl ?_
    refine XS.sipush X291.here hx rfl (hB d6_17) ?_
    refine XS.icmpYes X291.here hx rfl (pc0 := 20) (pc' := 26) rfl (hB d6_20) rfl (flt (hl3 : ¬ ((255 : Int32) < c3))).2.2.2 (by decide) (by decide) ?_
    refine XS.aloadN X291.here hx rfl (hB d6_26) rfl rfl ?_
    refine XS.iloadN X291.here hx rfl (hB d6_27) rfl ?_
    show Steps _ _ _ (T291.setTop (mkF m 28 #[.val (.ref a1), .val (.int 3), .val (.ref a2), .val (.int 3), .val (.int 4), .val (.int 3), .val (.int c3)] [.int 3, .ref a2])) _
    refine XS.iload X291.here hx rfl (hB d6_28) rfl ?_
    refine XS.i2b X291.here hx rfl (hB d6_30) rfl ?_
    refine st296 _ ?_
    show Steps _ _ _ (T296.setTop (mkF m 32 #[.val (.ref a1), .val (.int 3), .val (.ref a2), .val (.int 3), .val (.int 4), .val (.int 3), .val (.int c3)] [])) _
    refine XS.iinc X296.here hx rfl (hB d6_32) rfl (l' := #[.val (.ref a1), .val (.int 4), .val (.ref a2), .val (.int 3), .val (.int 4), .val (.int 3), .val (.int c3)]) rfl ?_
    refine XS.iinc X296.here hx rfl (hB d6_35) rfl (l' := #[.val (.ref a1), .val (.int 4), .val (.ref a2), .val (.int 4), .val (.int 4), .val (.int 3), .val (.int c3)]) rfl ?_
    refine XS.iinc X296.here hx rfl (hB d6_38) rfl (l' := #[.val (.ref a1), .val (.int 4), .val (.ref a2), .val (.int 4), .val (.int 4), .val (.int 4), .val (.int c3)]) rfl ?_
    refine XS.goto X296.here hx rfl (pc0 := 41) (pc' := 3) rfl (hB d6_41) (by decide) (by decide) ?_
    refine XS.iload X296.here hx rfl (hB d6_3) rfl ?_
    refine XS.iload X296.here hx rfl (hB d6_5) rfl ?_
    refine XS.icmpYes X296.here hx rfl (pc0 := 7) (pc' := 44) rfl (hB d6_7) rfl (flt (by decide : ¬ ((4 : Int32) < (4 : Int32)))).2.1 (by decide) (by decide) ?_
    refine XS.iload X296.here hx rfl (hB d6_44) rfl ?_
    exact retOut X296 hx Bd.returns rfl (Or.inl ⟨rfl, Or.inl rfl, _, rfl⟩) (hB d6_46) hr
  · show Qc5L4 Z G1 fm a1 a2 ka kb c0 c1 c2 c3 h0 n0 _ T296.heap _
    rw [e296]
    exact ⟨rfl, N296, K0_297, V296⟩
def Qc5W4 (Z : State) (G1 : Int32) (fm : Value) (a1 : Addr) (a2 : Addr) (ka : ClassId) (kb : ClassId) (c0 : Int32) (c1 : Int32) (c2 : Int32) (c3 : Int32) (h0 : Heap) (n0 : Nat) (v : Option Value) (h : Heap) (L : List Loc) : Prop := ∃ j : Int32, v = some (.int j) ∧ Fr n0 L ∧ Keep h0 h [a2] ∧ own_first j [c0, c1, c2, c3]
theorem rmc5W4_0 (l : Launch) (Z : State) (a0 : Array Value) (G1 : Int32) (fm : Value) (hG : Glob Z a0 G1 fm) (ws : List Jvm.Cond) (a1 : Addr) (a2 : Addr) (ka : ClassId) (kb : ClassId) (c0 : Int32) (c1 : Int32) (c2 : Int32) (c3 : Int32) (h0 : Heap) (n0 : Nat) (Z0 : n0 ≤ h0.size) (X00 : Old Z n0 h0) (V_a1 : Arv Z h0 a1 ka .char (4 : Int32) [.int c0, .int c1, .int c2, .int c3] (.int 0)) (V_a2 : Arv Z h0 a2 kb .byte (4 : Int32) [.int 0, .int 0, .int 0, .int 0] (.int 0)) (g_a2 : n0 ≤ a2) (ne_a1_a2 : a1 ≠ a2) (hwid : ¬ (¬ ((255 : Int32) < c0) ∧ ¬ ((255 : Int32) < c1) ∧ ¬ ((255 : Int32) < c2) ∧ ¬ ((255 : Int32) < c3))) (hwd : (255 : Int32) < c0) :
    Met l Z h0 y6 jdk_52_method_21_code 7 (some .int) ws (Room.mk 0 0 0 0) #[.ref a1, .int 0, .ref a2, .int 0, .int 4] (Qc5W4 Z G1 fm a1 a2 ka kb c0 c1 c2 c3 h0 n0) := by
  obtain ⟨hw, O_cs, P_cs, O_as, O_hi, O_lo, O_fm, R_fm⟩ := id hG
  have W := @own_W _ _ hw
  refine own_go "java/lang/StringUTF16" rfl (plainFor_of_name pn_java_lang_StringUTF16) ?_
  intro p e s m below meth c s₁ Bd hx hby hml hown hnm X0 e0 hZ
  have hB := @hb _ _ hby
  have N0 := Fr.nil n0
  obtain ⟨clq298, Arq298, qaq298, Sq298, Nq298, Hq298, Gq298⟩ := id V_a1
  have hinq298 := inb_of (j := (0 : Int32)) Sq298 ⟨by decide, by decide⟩
  have hatq298 := Has.at (v := (.int c0)) Hq298 hinq298 rfl
  obtain ⟨fs, hr, hrun, hended, hW, hsame⟩ := X0.leave (v := some (.int 0)) (fun h => by rw [Bd.returns] at h; cases h)
  refine ⟨_, _, castTop (ef_jdk_52_method_21_code_RIRII m a1 (0 : Int32) a2 (0 : Int32) (4 : Int32)) ?_, hrun, hended, _, _, rfl, ?_, ⟨_, rfl⟩, hW, hsame.mono (own_ble rfl) (own_ble rfl)⟩
  · show Steps _ _ _ (s₁.setTop (mkF m 0 #[.val (.ref a1), .val (.int 0), .val (.ref a2), .val (.int 0), .val (.int 4), .unset, .unset] [])) _
    refine XS.iconst X0.here hx rfl (hB d6_0) ?_
    refine XS.istore X0.here hx rfl (hB d6_1) rfl (l' := #[.val (.ref a1), .val (.int 0), .val (.ref a2), .val (.int 0), .val (.int 4), .val (.int 0), .unset]) rfl ?_
    refine XS.iload X0.here hx rfl (hB d6_3) rfl ?_
    refine XS.iload X0.here hx rfl (hB d6_5) rfl ?_
    refine XS.icmpNo X0.here hx rfl (hB d6_7) rfl (tlt (by decide : (0 : Int32) < (4 : Int32))).2.1 ?_
    refine XS.aloadN X0.here hx rfl (hB d6_10) rfl rfl ?_
    refine XS.iloadN X0.here hx rfl (hB d6_11) rfl ?_
    refine X0.caload hx (j := (0 : Int32)) (v := (.int c0)) (own_cell e0 Arq298.1) (State.isArrayOf_alike hZ.alike Arq298.2.1) Arq298.2.2 hinq298 hatq298 (g := (mkF m 12 #[.val (.ref a1), .val (.int 0), .val (.ref a2), .val (.int 0), .val (.int 4), .val (.int 0), .unset] [.int 0, .ref a1])) rfl rfl (hB d6_12) _ ?_
    refine XS.istore X0.here hx rfl (hB d6_13) rfl (l' := #[.val (.ref a1), .val (.int 0), .val (.ref a2), .val (.int 0), .val (.int 4), .val (.int 0), .val (.int c0)]) rfl ?_
    refine XS.iload X0.here hx rfl (hB d6_15) rfl ?_
    refine XS.sipush X0.here hx rfl (hB d6_17) ?_
    refine XS.icmpNo X0.here hx rfl (hB d6_20) rfl (tlt (hwd : (255 : Int32) < c0)).2.2.2 ?_
    refine XS.iload X0.here hx rfl (hB d6_23) rfl ?_
    exact retOut X0 hx Bd.returns rfl (Or.inl ⟨rfl, Or.inl rfl, _, rfl⟩) (hB d6_25) hr
  · show Qc5W4 Z G1 fm a1 a2 ka kb c0 c1 c2 c3 h0 n0 _ s₁.heap _
    rw [e0]
    exact ⟨(0 : Int32), rfl, N0, (Keep.refl h0 [a2]), ⟨0, c0, rfl, rfl, hwd⟩⟩
theorem rmc5W4_1 (l : Launch) (Z : State) (a0 : Array Value) (G1 : Int32) (fm : Value) (hG : Glob Z a0 G1 fm) (ws : List Jvm.Cond) (a1 : Addr) (a2 : Addr) (ka : ClassId) (kb : ClassId) (c0 : Int32) (c1 : Int32) (c2 : Int32) (c3 : Int32) (h0 : Heap) (n0 : Nat) (Z0 : n0 ≤ h0.size) (X00 : Old Z n0 h0) (V_a1 : Arv Z h0 a1 ka .char (4 : Int32) [.int c0, .int c1, .int c2, .int c3] (.int 0)) (V_a2 : Arv Z h0 a2 kb .byte (4 : Int32) [.int 0, .int 0, .int 0, .int 0] (.int 0)) (g_a2 : n0 ≤ a2) (ne_a1_a2 : a1 ≠ a2) (hwid : ¬ (¬ ((255 : Int32) < c0) ∧ ¬ ((255 : Int32) < c1) ∧ ¬ ((255 : Int32) < c2) ∧ ¬ ((255 : Int32) < c3))) (hl0 : ¬ ((255 : Int32) < c0)) (hwd : (255 : Int32) < c1) :
    Met l Z h0 y6 jdk_52_method_21_code 7 (some .int) ws (Room.mk 0 0 0 0) #[.ref a1, .int 0, .ref a2, .int 0, .int 4] (Qc5W4 Z G1 fm a1 a2 ka kb c0 c1 c2 c3 h0 n0) := by
  obtain ⟨hw, O_cs, P_cs, O_as, O_hi, O_lo, O_fm, R_fm⟩ := id hG
  have W := @own_W _ _ hw
  refine own_go "java/lang/StringUTF16" rfl (plainFor_of_name pn_java_lang_StringUTF16) ?_
  intro p e s m below meth c s₁ Bd hx hby hml hown hnm X0 e0 hZ
  have hB := @hb _ _ hby
  have N0 := Fr.nil n0
  obtain ⟨clq299, Arq299, qaq299, Sq299, Nq299, Hq299, Gq299⟩ := id V_a1
  have hinq299 := inb_of (j := (0 : Int32)) Sq299 ⟨by decide, by decide⟩
  have hatq299 := Has.at (v := (.int c0)) Hq299 hinq299 rfl
  obtain ⟨clq300, Arq300, qaq300, Sq300, Nq300, Hq300, Gq300⟩ := id V_a2
  have hinq300 := inb_of (j := (0 : Int32)) Sq300 ⟨by decide, by decide⟩
  obtain ⟨T301, h301, X301, e301, W301, st301⟩ := stB X0 hx hZ e0 Arq300 (j := (0 : Int32)) hinq300 (g := (mkF m 31 #[.val (.ref a1), .val (.int 0), .val (.ref a2), .val (.int 0), .val (.int 4), .val (.int 0), .val (.int c0)] [(.int (c0.toInt8.toInt32)), .int 0, .ref a2])) rfl rfl (hB d6_31)
  have V301 : Arv Z h301 a2 kb .byte (4 : Int32) [(.int ((c0.toInt8.toInt32).toInt8.toInt32)), .int 0, .int 0, .int 0] (.int 0) := Arv.set Arq300 qaq300 Sq300 Nq300 Hq300 Gq300 (fits_nar_byte _) W301 0 rfl (own_ble rfl)
  have Z302 : n0 ≤ h301.size := Nat.le_trans Z0 (Keep.of_wr W301).1
  have K0_302 : Keep h0 h301 [a2] := (Keep.refl h0 [a2]).wr W301 (Or.inl (List.mem_of_getElem? (i := 0) rfl))
  have O302 : Old Z n0 h301 := X00.wr W301 g_a2
  have N301 := Fr.snoc X301 N0 g_a2
  have f303 := (V_a1.other W301 ne_a1_a2)
  obtain ⟨clq304, Arq304, qaq304, Sq304, Nq304, Hq304, Gq304⟩ := id f303
  have hinq304 := inb_of (j := (1 : Int32)) Sq304 ⟨by decide, by decide⟩
  have hatq304 := Has.at (v := (.int c1)) Hq304 hinq304 rfl
  obtain ⟨fs, hr, hrun, hended, hW, hsame⟩ := X301.leave (v := some (.int 1)) (fun h => by rw [Bd.returns] at h; cases h)
  refine ⟨_, _, castTop (ef_jdk_52_method_21_code_RIRII m a1 (0 : Int32) a2 (0 : Int32) (4 : Int32)) ?_, hrun, hended, _, _, rfl, ?_, ⟨_, rfl⟩, hW, hsame.mono (own_ble rfl) (own_ble rfl)⟩
  · show Steps _ _ _ (s₁.setTop (mkF m 0 #[.val (.ref a1), .val (.int 0), .val (.ref a2), .val (.int 0), .val (.int 4), .unset, .unset] [])) _
    refine XS.iconst X0.here hx rfl (hB d6_0) ?_
    refine XS.istore X0.here hx rfl (hB d6_1) rfl (l' := #[.val (.ref a1), .val (.int 0), .val (.ref a2), .val (.int 0), .val (.int 4), .val (.int 0), .unset]) rfl ?_
    refine XS.iload X0.here hx rfl (hB d6_3) rfl ?_
    refine XS.iload X0.here hx rfl (hB d6_5) rfl ?_
    refine XS.icmpNo X0.here hx rfl (hB d6_7) rfl (tlt (by decide : (0 : Int32) < (4 : Int32))).2.1 ?_
    refine XS.aloadN X0.here hx rfl (hB d6_10) rfl rfl ?_
    refine XS.iloadN X0.here hx rfl (hB d6_11) rfl ?_
    refine X0.caload hx (j := (0 : Int32)) (v := (.int c0)) (own_cell e0 Arq299.1) (State.isArrayOf_alike hZ.alike Arq299.2.1) Arq299.2.2 hinq299 hatq299 (g := (mkF m 12 #[.val (.ref a1), .val (.int 0), .val (.ref a2), .val (.int 0), .val (.int 4), .val (.int 0), .unset] [.int 0, .ref a1])) rfl rfl (hB d6_12) _ ?_
    refine XS.istore X0.here hx rfl (hB d6_13) rfl (l' := #[.val (.ref a1), .val (.int 0), .val (.ref a2), .val (.int 0), .val (.int 4), .val (.int 0), .val (.int c0)]) rfl ?_
    refine XS.iload X0.here hx rfl (hB d6_15) rfl ?_
    refine XS.sipush X0.here hx rfl (hB d6_17) ?_
    refine XS.icmpYes X0.here hx rfl (pc0 := 20) (pc' := 26) rfl (hB d6_20) rfl (flt (hl0 : ¬ ((255 : Int32) < c0))).2.2.2 (by decide) (by decide) ?_
    refine XS.aloadN X0.here hx rfl (hB d6_26) rfl rfl ?_
    refine XS.iloadN X0.here hx rfl (hB d6_27) rfl ?_
    refine XS.iload X0.here hx rfl (hB d6_28) rfl ?_
    refine XS.i2b X0.here hx rfl (hB d6_30) rfl ?_
    show Steps _ _ _ (s₁.setTop (mkF m 31 #[.val (.ref a1), .val (.int 0), .val (.ref a2), .val (.int 0), .val (.int 4), .val (.int 0), .val (.int c0)] [(.int (c0.toInt8.toInt32)), .int 0, .ref a2])) _
    refine st301 _ ?_
    show Steps _ _ _ (T301.setTop (mkF m 32 #[.val (.ref a1), .val (.int 0), .val (.ref a2), .val (.int 0), .val (.int 4), .val (.int 0), .val (.int c0)] [])) _
    refine XS.iinc X301.here hx rfl (hB d6_32) rfl (l' := #[.val (.ref a1), .val (.int 1), .val (.ref a2), .val (.int 0), .val (.int 4), .val (.int 0), .val (.int c0)]) rfl ?_
    refine XS.iinc X301.here hx rfl (hB d6_35) rfl (l' := #[.val (.ref a1), .val (.int 1), .val (.ref a2), .val (.int 1), .val (.int 4), .val (.int 0), .val (.int c0)]) rfl ?_
    refine XS.iinc X301.here hx rfl (hB d6_38) rfl (l' := #[.val (.ref a1), .val (.int 1), .val (.ref a2), .val (.int 1), .val (.int 4), .val (.int 1), .val (.int c0)]) rfl ?_
    refine XS.goto X301.here hx rfl (pc0 := 41) (pc' := 3) rfl (hB d6_41) (by decide) (by decide) ?_
    refine XS.iload X301.here hx rfl (hB d6_3) rfl ?_
    refine XS.iload X301.here hx rfl (hB d6_5) rfl ?_
    refine XS.icmpNo X301.here hx rfl (hB d6_7) rfl (tlt (by decide : (1 : Int32) < (4 : Int32))).2.1 ?_
    refine XS.aloadN X301.here hx rfl (hB d6_10) rfl rfl ?_
    refine XS.iloadN X301.here hx rfl (hB d6_11) rfl ?_
    refine X301.caload hx (j := (1 : Int32)) (v := (.int c1)) (own_cell e301 Arq304.1) (State.isArrayOf_alike hZ.alike Arq304.2.1) Arq304.2.2 hinq304 hatq304 (g := (mkF m 12 #[.val (.ref a1), .val (.int 1), .val (.ref a2), .val (.int 1), .val (.int 4), .val (.int 1), .val (.int c0)] [.int 1, .ref a1])) rfl rfl (hB d6_12) _ ?_
    refine XS.istore X301.here hx rfl (hB d6_13) rfl (l' := #[.val (.ref a1), .val (.int 1), .val (.ref a2), .val (.int 1), .val (.int 4), .val (.int 1), .val (.int c1)]) rfl ?_
    refine XS.iload X301.here hx rfl (hB d6_15) rfl ?_
    refine XS.sipush X301.here hx rfl (hB d6_17) ?_
    refine XS.icmpNo X301.here hx rfl (hB d6_20) rfl (tlt (hwd : (255 : Int32) < c1)).2.2.2 ?_
    refine XS.iload X301.here hx rfl (hB d6_23) rfl ?_
    exact retOut X301 hx Bd.returns rfl (Or.inl ⟨rfl, Or.inl rfl, _, rfl⟩) (hB d6_25) hr
  · show Qc5W4 Z G1 fm a1 a2 ka kb c0 c1 c2 c3 h0 n0 _ T301.heap _
    rw [e301]
    exact ⟨(1 : Int32), rfl, N301, K0_302, ⟨1, c1, rfl, rfl, hwd⟩⟩
theorem rmc5W4_2 (l : Launch) (Z : State) (a0 : Array Value) (G1 : Int32) (fm : Value) (hG : Glob Z a0 G1 fm) (ws : List Jvm.Cond) (a1 : Addr) (a2 : Addr) (ka : ClassId) (kb : ClassId) (c0 : Int32) (c1 : Int32) (c2 : Int32) (c3 : Int32) (h0 : Heap) (n0 : Nat) (Z0 : n0 ≤ h0.size) (X00 : Old Z n0 h0) (V_a1 : Arv Z h0 a1 ka .char (4 : Int32) [.int c0, .int c1, .int c2, .int c3] (.int 0)) (V_a2 : Arv Z h0 a2 kb .byte (4 : Int32) [.int 0, .int 0, .int 0, .int 0] (.int 0)) (g_a2 : n0 ≤ a2) (ne_a1_a2 : a1 ≠ a2) (hwid : ¬ (¬ ((255 : Int32) < c0) ∧ ¬ ((255 : Int32) < c1) ∧ ¬ ((255 : Int32) < c2) ∧ ¬ ((255 : Int32) < c3))) (hl0 : ¬ ((255 : Int32) < c0)) (hl1 : ¬ ((255 : Int32) < c1)) (hwd : (255 : Int32) < c2) :
    Met l Z h0 y6 jdk_52_method_21_code 7 (some .int) ws (Room.mk 0 0 0 0) #[.ref a1, .int 0, .ref a2, .int 0, .int 4] (Qc5W4 Z G1 fm a1 a2 ka kb c0 c1 c2 c3 h0 n0) := by
  obtain ⟨hw, O_cs, P_cs, O_as, O_hi, O_lo, O_fm, R_fm⟩ := id hG
  have W := @own_W _ _ hw
  refine own_go "java/lang/StringUTF16" rfl (plainFor_of_name pn_java_lang_StringUTF16) ?_
  intro p e s m below meth c s₁ Bd hx hby hml hown hnm X0 e0 hZ
  have hB := @hb _ _ hby
  have N0 := Fr.nil n0
  obtain ⟨clq305, Arq305, qaq305, Sq305, Nq305, Hq305, Gq305⟩ := id V_a1
  have hinq305 := inb_of (j := (0 : Int32)) Sq305 ⟨by decide, by decide⟩
  have hatq305 := Has.at (v := (.int c0)) Hq305 hinq305 rfl
  obtain ⟨clq306, Arq306, qaq306, Sq306, Nq306, Hq306, Gq306⟩ := id V_a2
  have hinq306 := inb_of (j := (0 : Int32)) Sq306 ⟨by decide, by decide⟩
  obtain ⟨T307, h307, X307, e307, W307, st307⟩ := stB X0 hx hZ e0 Arq306 (j := (0 : Int32)) hinq306 (g := (mkF m 31 #[.val (.ref a1), .val (.int 0), .val (.ref a2), .val (.int 0), .val (.int 4), .val (.int 0), .val (.int c0)] [(.int (c0.toInt8.toInt32)), .int 0, .ref a2])) rfl rfl (hB d6_31)
  have V307 : Arv Z h307 a2 kb .byte (4 : Int32) [(.int ((c0.toInt8.toInt32).toInt8.toInt32)), .int 0, .int 0, .int 0] (.int 0) := Arv.set Arq306 qaq306 Sq306 Nq306 Hq306 Gq306 (fits_nar_byte _) W307 0 rfl (own_ble rfl)
  have Z308 : n0 ≤ h307.size := Nat.le_trans Z0 (Keep.of_wr W307).1
  have K0_308 : Keep h0 h307 [a2] := (Keep.refl h0 [a2]).wr W307 (Or.inl (List.mem_of_getElem? (i := 0) rfl))
  have O308 : Old Z n0 h307 := X00.wr W307 g_a2
  have N307 := Fr.snoc X307 N0 g_a2
  have f309 := (V_a1.other W307 ne_a1_a2)
  obtain ⟨clq310, Arq310, qaq310, Sq310, Nq310, Hq310, Gq310⟩ := id f309
  have hinq310 := inb_of (j := (1 : Int32)) Sq310 ⟨by decide, by decide⟩
  have hatq310 := Has.at (v := (.int c1)) Hq310 hinq310 rfl
  obtain ⟨clq311, Arq311, qaq311, Sq311, Nq311, Hq311, Gq311⟩ := id V307
  have hinq311 := inb_of (j := (1 : Int32)) Sq311 ⟨by decide, by decide⟩
  obtain ⟨T312, h312, X312, e312, W312, st312⟩ := stB X307 hx hZ e307 Arq311 (j := (1 : Int32)) hinq311 (g := (mkF m 31 #[.val (.ref a1), .val (.int 1), .val (.ref a2), .val (.int 1), .val (.int 4), .val (.int 1), .val (.int c1)] [(.int (c1.toInt8.toInt32)), .int 1, .ref a2])) rfl rfl (hB d6_31)
  have V312 : Arv Z h312 a2 kb .byte (4 : Int32) [(.int ((c0.toInt8.toInt32).toInt8.toInt32)), (.int ((c1.toInt8.toInt32).toInt8.toInt32)), .int 0, .int 0] (.int 0) := Arv.set Arq311 qaq311 Sq311 Nq311 Hq311 Gq311 (fits_nar_byte _) W312 1 rfl (own_ble rfl)
  have Z313 : n0 ≤ h312.size := Nat.le_trans Z308 (Keep.of_wr W312).1
  have K0_313 : Keep h0 h312 [a2] := K0_308.wr W312 (Or.inl (List.mem_of_getElem? (i := 0) rfl))
  have O313 : Old Z n0 h312 := O308.wr W312 g_a2
  have N312 := Fr.snoc X312 N307 g_a2
  have f314 := (f309.other W312 ne_a1_a2)
  obtain ⟨clq315, Arq315, qaq315, Sq315, Nq315, Hq315, Gq315⟩ := id f314
  have hinq315 := inb_of (j := (2 : Int32)) Sq315 ⟨by decide, by decide⟩
  have hatq315 := Has.at (v := (.int c2)) Hq315 hinq315 rfl
  obtain ⟨fs, hr, hrun, hended, hW, hsame⟩ := X312.leave (v := some (.int 2)) (fun h => by rw [Bd.returns] at h; cases h)
  refine ⟨_, _, castTop (ef_jdk_52_method_21_code_RIRII m a1 (0 : Int32) a2 (0 : Int32) (4 : Int32)) ?_, hrun, hended, _, _, rfl, ?_, ⟨_, rfl⟩, hW, hsame.mono (own_ble rfl) (own_ble rfl)⟩
  · show Steps _ _ _ (s₁.setTop (mkF m 0 #[.val (.ref a1), .val (.int 0), .val (.ref a2), .val (.int 0), .val (.int 4), .unset, .unset] [])) _
    refine XS.iconst X0.here hx rfl (hB d6_0) ?_
    refine XS.istore X0.here hx rfl (hB d6_1) rfl (l' := #[.val (.ref a1), .val (.int 0), .val (.ref a2), .val (.int 0), .val (.int 4), .val (.int 0), .unset]) rfl ?_
    refine XS.iload X0.here hx rfl (hB d6_3) rfl ?_
    refine XS.iload X0.here hx rfl (hB d6_5) rfl ?_
    refine XS.icmpNo X0.here hx rfl (hB d6_7) rfl (tlt (by decide : (0 : Int32) < (4 : Int32))).2.1 ?_
    refine XS.aloadN X0.here hx rfl (hB d6_10) rfl rfl ?_
    refine XS.iloadN X0.here hx rfl (hB d6_11) rfl ?_
    refine X0.caload hx (j := (0 : Int32)) (v := (.int c0)) (own_cell e0 Arq305.1) (State.isArrayOf_alike hZ.alike Arq305.2.1) Arq305.2.2 hinq305 hatq305 (g := (mkF m 12 #[.val (.ref a1), .val (.int 0), .val (.ref a2), .val (.int 0), .val (.int 4), .val (.int 0), .unset] [.int 0, .ref a1])) rfl rfl (hB d6_12) _ ?_
    refine XS.istore X0.here hx rfl (hB d6_13) rfl (l' := #[.val (.ref a1), .val (.int 0), .val (.ref a2), .val (.int 0), .val (.int 4), .val (.int 0), .val (.int c0)]) rfl ?_
    refine XS.iload X0.here hx rfl (hB d6_15) rfl ?_
    refine XS.sipush X0.here hx rfl (hB d6_17) ?_
    refine XS.icmpYes X0.here hx rfl (pc0 := 20) (pc' := 26) rfl (hB d6_20) rfl (flt (hl0 : ¬ ((255 : Int32) < c0))).2.2.2 (by decide) (by decide) ?_
    refine XS.aloadN X0.here hx rfl (hB d6_26) rfl rfl ?_
    refine XS.iloadN X0.here hx rfl (hB d6_27) rfl ?_
    refine XS.iload X0.here hx rfl (hB d6_28) rfl ?_
    refine XS.i2b X0.here hx rfl (hB d6_30) rfl ?_
    show Steps _ _ _ (s₁.setTop (mkF m 31 #[.val (.ref a1), .val (.int 0), .val (.ref a2), .val (.int 0), .val (.int 4), .val (.int 0), .val (.int c0)] [(.int (c0.toInt8.toInt32)), .int 0, .ref a2])) _
    refine st307 _ ?_
    show Steps _ _ _ (T307.setTop (mkF m 32 #[.val (.ref a1), .val (.int 0), .val (.ref a2), .val (.int 0), .val (.int 4), .val (.int 0), .val (.int c0)] [])) _
    refine XS.iinc X307.here hx rfl (hB d6_32) rfl (l' := #[.val (.ref a1), .val (.int 1), .val (.ref a2), .val (.int 0), .val (.int 4), .val (.int 0), .val (.int c0)]) rfl ?_
    refine XS.iinc X307.here hx rfl (hB d6_35) rfl (l' := #[.val (.ref a1), .val (.int 1), .val (.ref a2), .val (.int 1), .val (.int 4), .val (.int 0), .val (.int c0)]) rfl ?_
    refine XS.iinc X307.here hx rfl (hB d6_38) rfl (l' := #[.val (.ref a1), .val (.int 1), .val (.ref a2), .val (.int 1), .val (.int 4), .val (.int 1), .val (.int c0)]) rfl ?_
    refine XS.goto X307.here hx rfl (pc0 := 41) (pc' := 3) rfl (hB d6_41) (by decide) (by decide) ?_
    refine XS.iload X307.here hx rfl (hB d6_3) rfl ?_
    refine XS.iload X307.here hx rfl (hB d6_5) rfl ?_
    refine XS.icmpNo X307.here hx rfl (hB d6_7) rfl (tlt (by decide : (1 : Int32) < (4 : Int32))).2.1 ?_
    refine XS.aloadN X307.here hx rfl (hB d6_10) rfl rfl ?_
    refine XS.iloadN X307.here hx rfl (hB d6_11) rfl ?_
    refine X307.caload hx (j := (1 : Int32)) (v := (.int c1)) (own_cell e307 Arq310.1) (State.isArrayOf_alike hZ.alike Arq310.2.1) Arq310.2.2 hinq310 hatq310 (g := (mkF m 12 #[.val (.ref a1), .val (.int 1), .val (.ref a2), .val (.int 1), .val (.int 4), .val (.int 1), .val (.int c0)] [.int 1, .ref a1])) rfl rfl (hB d6_12) _ ?_
    refine XS.istore X307.here hx rfl (hB d6_13) rfl (l' := #[.val (.ref a1), .val (.int 1), .val (.ref a2), .val (.int 1), .val (.int 4), .val (.int 1), .val (.int c1)]) rfl ?_
    refine XS.iload X307.here hx rfl (hB d6_15) rfl ?_
    refine XS.sipush X307.here hx rfl (hB d6_17) ?_
    refine XS.icmpYes X307.here hx rfl (pc0 := 20) (pc' := 26) rfl (hB d6_20) rfl (flt (hl1 : ¬ ((255 : Int32) < c1))).2.2.2 (by decide) (by decide) ?_
    refine XS.aloadN X307.here hx rfl (hB d6_26) rfl rfl ?_
    refine XS.iloadN X307.here hx rfl (hB d6_27) rfl ?_
    show Steps _ _ _ (T307.setTop (mkF m 28 #[.val (.ref a1), .val (.int 1), .val (.ref a2), .val (.int 1), .val (.int 4), .val (.int 1), .val (.int c1)] [.int 1, .ref a2])) _
    refine XS.iload X307.here hx rfl (hB d6_28) rfl ?_
    refine XS.i2b X307.here hx rfl (hB d6_30) rfl ?_
    refine st312 _ ?_
    show Steps _ _ _ (T312.setTop (mkF m 32 #[.val (.ref a1), .val (.int 1), .val (.ref a2), .val (.int 1), .val (.int 4), .val (.int 1), .val (.int c1)] [])) _
    refine XS.iinc X312.here hx rfl (hB d6_32) rfl (l' := #[.val (.ref a1), .val (.int 2), .val (.ref a2), .val (.int 1), .val (.int 4), .val (.int 1), .val (.int c1)]) rfl ?_
    refine XS.iinc X312.here hx rfl (hB d6_35) rfl (l' := #[.val (.ref a1), .val (.int 2), .val (.ref a2), .val (.int 2), .val (.int 4), .val (.int 1), .val (.int c1)]) rfl ?_
    refine XS.iinc X312.here hx rfl (hB d6_38) rfl (l' := #[.val (.ref a1), .val (.int 2), .val (.ref a2), .val (.int 2), .val (.int 4), .val (.int 2), .val (.int c1)]) rfl ?_
    refine XS.goto X312.here hx rfl (pc0 := 41) (pc' := 3) rfl (hB d6_41) (by decide) (by decide) ?_
    refine XS.iload X312.here hx rfl (hB d6_3) rfl ?_
    refine XS.iload X312.here hx rfl (hB d6_5) rfl ?_
    refine XS.icmpNo X312.here hx rfl (hB d6_7) rfl (tlt (by decide : (2 : Int32) < (4 : Int32))).2.1 ?_
    refine XS.aloadN X312.here hx rfl (hB d6_10) rfl rfl ?_
    refine XS.iloadN X312.here hx rfl (hB d6_11) rfl ?_
    refine X312.caload hx (j := (2 : Int32)) (v := (.int c2)) (own_cell e312 Arq315.1) (State.isArrayOf_alike hZ.alike Arq315.2.1) Arq315.2.2 hinq315 hatq315 (g := (mkF m 12 #[.val (.ref a1), .val (.int 2), .val (.ref a2), .val (.int 2), .val (.int 4), .val (.int 2), .val (.int c1)] [.int 2, .ref a1])) rfl rfl (hB d6_12) _ ?_
    refine XS.istore X312.here hx rfl (hB d6_13) rfl (l' := #[.val (.ref a1), .val (.int 2), .val (.ref a2), .val (.int 2), .val (.int 4), .val (.int 2), .val (.int c2)]) rfl ?_
    refine XS.iload X312.here hx rfl (hB d6_15) rfl ?_
    refine XS.sipush X312.here hx rfl (hB d6_17) ?_
    refine XS.icmpNo X312.here hx rfl (hB d6_20) rfl (tlt (hwd : (255 : Int32) < c2)).2.2.2 ?_
    refine XS.iload X312.here hx rfl (hB d6_23) rfl ?_
    exact retOut X312 hx Bd.returns rfl (Or.inl ⟨rfl, Or.inl rfl, _, rfl⟩) (hB d6_25) hr
  · show Qc5W4 Z G1 fm a1 a2 ka kb c0 c1 c2 c3 h0 n0 _ T312.heap _
    rw [e312]
    exact ⟨(2 : Int32), rfl, N312, K0_313, ⟨2, c2, rfl, rfl, hwd⟩⟩
theorem rmc5W4_3 (l : Launch) (Z : State) (a0 : Array Value) (G1 : Int32) (fm : Value) (hG : Glob Z a0 G1 fm) (ws : List Jvm.Cond) (a1 : Addr) (a2 : Addr) (ka : ClassId) (kb : ClassId) (c0 : Int32) (c1 : Int32) (c2 : Int32) (c3 : Int32) (h0 : Heap) (n0 : Nat) (Z0 : n0 ≤ h0.size) (X00 : Old Z n0 h0) (V_a1 : Arv Z h0 a1 ka .char (4 : Int32) [.int c0, .int c1, .int c2, .int c3] (.int 0)) (V_a2 : Arv Z h0 a2 kb .byte (4 : Int32) [.int 0, .int 0, .int 0, .int 0] (.int 0)) (g_a2 : n0 ≤ a2) (ne_a1_a2 : a1 ≠ a2) (hwid : ¬ (¬ ((255 : Int32) < c0) ∧ ¬ ((255 : Int32) < c1) ∧ ¬ ((255 : Int32) < c2) ∧ ¬ ((255 : Int32) < c3))) (hl0 : ¬ ((255 : Int32) < c0)) (hl1 : ¬ ((255 : Int32) < c1)) (hl2 : ¬ ((255 : Int32) < c2)) (hwd : (255 : Int32) < c3) :
    Met l Z h0 y6 jdk_52_method_21_code 7 (some .int) ws (Room.mk 0 0 0 0) #[.ref a1, .int 0, .ref a2, .int 0, .int 4] (Qc5W4 Z G1 fm a1 a2 ka kb c0 c1 c2 c3 h0 n0) := by
  obtain ⟨hw, O_cs, P_cs, O_as, O_hi, O_lo, O_fm, R_fm⟩ := id hG
  have W := @own_W _ _ hw
  refine own_go "java/lang/StringUTF16" rfl (plainFor_of_name pn_java_lang_StringUTF16) ?_
  intro p e s m below meth c s₁ Bd hx hby hml hown hnm X0 e0 hZ
  have hB := @hb _ _ hby
  have N0 := Fr.nil n0
  obtain ⟨clq316, Arq316, qaq316, Sq316, Nq316, Hq316, Gq316⟩ := id V_a1
  have hinq316 := inb_of (j := (0 : Int32)) Sq316 ⟨by decide, by decide⟩
  have hatq316 := Has.at (v := (.int c0)) Hq316 hinq316 rfl
  obtain ⟨clq317, Arq317, qaq317, Sq317, Nq317, Hq317, Gq317⟩ := id V_a2
  have hinq317 := inb_of (j := (0 : Int32)) Sq317 ⟨by decide, by decide⟩
  obtain ⟨T318, h318, X318, e318, W318, st318⟩ := stB X0 hx hZ e0 Arq317 (j := (0 : Int32)) hinq317 (g := (mkF m 31 #[.val (.ref a1), .val (.int 0), .val (.ref a2), .val (.int 0), .val (.int 4), .val (.int 0), .val (.int c0)] [(.int (c0.toInt8.toInt32)), .int 0, .ref a2])) rfl rfl (hB d6_31)
  have V318 : Arv Z h318 a2 kb .byte (4 : Int32) [(.int ((c0.toInt8.toInt32).toInt8.toInt32)), .int 0, .int 0, .int 0] (.int 0) := Arv.set Arq317 qaq317 Sq317 Nq317 Hq317 Gq317 (fits_nar_byte _) W318 0 rfl (own_ble rfl)
  have Z319 : n0 ≤ h318.size := Nat.le_trans Z0 (Keep.of_wr W318).1
  have K0_319 : Keep h0 h318 [a2] := (Keep.refl h0 [a2]).wr W318 (Or.inl (List.mem_of_getElem? (i := 0) rfl))
  have O319 : Old Z n0 h318 := X00.wr W318 g_a2
  have N318 := Fr.snoc X318 N0 g_a2
  have f320 := (V_a1.other W318 ne_a1_a2)
  obtain ⟨clq321, Arq321, qaq321, Sq321, Nq321, Hq321, Gq321⟩ := id f320
  have hinq321 := inb_of (j := (1 : Int32)) Sq321 ⟨by decide, by decide⟩
  have hatq321 := Has.at (v := (.int c1)) Hq321 hinq321 rfl
  obtain ⟨clq322, Arq322, qaq322, Sq322, Nq322, Hq322, Gq322⟩ := id V318
  have hinq322 := inb_of (j := (1 : Int32)) Sq322 ⟨by decide, by decide⟩
  obtain ⟨T323, h323, X323, e323, W323, st323⟩ := stB X318 hx hZ e318 Arq322 (j := (1 : Int32)) hinq322 (g := (mkF m 31 #[.val (.ref a1), .val (.int 1), .val (.ref a2), .val (.int 1), .val (.int 4), .val (.int 1), .val (.int c1)] [(.int (c1.toInt8.toInt32)), .int 1, .ref a2])) rfl rfl (hB d6_31)
  have V323 : Arv Z h323 a2 kb .byte (4 : Int32) [(.int ((c0.toInt8.toInt32).toInt8.toInt32)), (.int ((c1.toInt8.toInt32).toInt8.toInt32)), .int 0, .int 0] (.int 0) := Arv.set Arq322 qaq322 Sq322 Nq322 Hq322 Gq322 (fits_nar_byte _) W323 1 rfl (own_ble rfl)
  have Z324 : n0 ≤ h323.size := Nat.le_trans Z319 (Keep.of_wr W323).1
  have K0_324 : Keep h0 h323 [a2] := K0_319.wr W323 (Or.inl (List.mem_of_getElem? (i := 0) rfl))
  have O324 : Old Z n0 h323 := O319.wr W323 g_a2
  have N323 := Fr.snoc X323 N318 g_a2
  have f325 := (f320.other W323 ne_a1_a2)
  obtain ⟨clq326, Arq326, qaq326, Sq326, Nq326, Hq326, Gq326⟩ := id f325
  have hinq326 := inb_of (j := (2 : Int32)) Sq326 ⟨by decide, by decide⟩
  have hatq326 := Has.at (v := (.int c2)) Hq326 hinq326 rfl
  obtain ⟨clq327, Arq327, qaq327, Sq327, Nq327, Hq327, Gq327⟩ := id V323
  have hinq327 := inb_of (j := (2 : Int32)) Sq327 ⟨by decide, by decide⟩
  obtain ⟨T328, h328, X328, e328, W328, st328⟩ := stB X323 hx hZ e323 Arq327 (j := (2 : Int32)) hinq327 (g := (mkF m 31 #[.val (.ref a1), .val (.int 2), .val (.ref a2), .val (.int 2), .val (.int 4), .val (.int 2), .val (.int c2)] [(.int (c2.toInt8.toInt32)), .int 2, .ref a2])) rfl rfl (hB d6_31)
  have V328 : Arv Z h328 a2 kb .byte (4 : Int32) [(.int ((c0.toInt8.toInt32).toInt8.toInt32)), (.int ((c1.toInt8.toInt32).toInt8.toInt32)), (.int ((c2.toInt8.toInt32).toInt8.toInt32)), .int 0] (.int 0) := Arv.set Arq327 qaq327 Sq327 Nq327 Hq327 Gq327 (fits_nar_byte _) W328 2 rfl (own_ble rfl)
  have Z329 : n0 ≤ h328.size := Nat.le_trans Z324 (Keep.of_wr W328).1
  have K0_329 : Keep h0 h328 [a2] := K0_324.wr W328 (Or.inl (List.mem_of_getElem? (i := 0) rfl))
  have O329 : Old Z n0 h328 := O324.wr W328 g_a2
  have N328 := Fr.snoc X328 N323 g_a2
  have f330 := (f325.other W328 ne_a1_a2)
  obtain ⟨clq331, Arq331, qaq331, Sq331, Nq331, Hq331, Gq331⟩ := id f330
  have hinq331 := inb_of (j := (3 : Int32)) Sq331 ⟨by decide, by decide⟩
  have hatq331 := Has.at (v := (.int c3)) Hq331 hinq331 rfl
  obtain ⟨fs, hr, hrun, hended, hW, hsame⟩ := X328.leave (v := some (.int 3)) (fun h => by rw [Bd.returns] at h; cases h)
  refine ⟨_, _, castTop (ef_jdk_52_method_21_code_RIRII m a1 (0 : Int32) a2 (0 : Int32) (4 : Int32)) ?_, hrun, hended, _, _, rfl, ?_, ⟨_, rfl⟩, hW, hsame.mono (own_ble rfl) (own_ble rfl)⟩
  · show Steps _ _ _ (s₁.setTop (mkF m 0 #[.val (.ref a1), .val (.int 0), .val (.ref a2), .val (.int 0), .val (.int 4), .unset, .unset] [])) _
    refine XS.iconst X0.here hx rfl (hB d6_0) ?_
    refine XS.istore X0.here hx rfl (hB d6_1) rfl (l' := #[.val (.ref a1), .val (.int 0), .val (.ref a2), .val (.int 0), .val (.int 4), .val (.int 0), .unset]) rfl ?_
    refine XS.iload X0.here hx rfl (hB d6_3) rfl ?_
    refine XS.iload X0.here hx rfl (hB d6_5) rfl ?_
    refine XS.icmpNo X0.here hx rfl (hB d6_7) rfl (tlt (by decide : (0 : Int32) < (4 : Int32))).2.1 ?_
    refine XS.aloadN X0.here hx rfl (hB d6_10) rfl rfl ?_
    refine XS.iloadN X0.here hx rfl (hB d6_11) rfl ?_
    refine X0.caload hx (j := (0 : Int32)) (v := (.int c0)) (own_cell e0 Arq316.1) (State.isArrayOf_alike hZ.alike Arq316.2.1) Arq316.2.2 hinq316 hatq316 (g := (mkF m 12 #[.val (.ref a1), .val (.int 0), .val (.ref a2), .val (.int 0), .val (.int 4), .val (.int 0), .unset] [.int 0, .ref a1])) rfl rfl (hB d6_12) _ ?_
    refine XS.istore X0.here hx rfl (hB d6_13) rfl (l' := #[.val (.ref a1), .val (.int 0), .val (.ref a2), .val (.int 0), .val (.int 4), .val (.int 0), .val (.int c0)]) rfl ?_
    refine XS.iload X0.here hx rfl (hB d6_15) rfl ?_
    refine XS.sipush X0.here hx rfl (hB d6_17) ?_
    refine XS.icmpYes X0.here hx rfl (pc0 := 20) (pc' := 26) rfl (hB d6_20) rfl (flt (hl0 : ¬ ((255 : Int32) < c0))).2.2.2 (by decide) (by decide) ?_
    refine XS.aloadN X0.here hx rfl (hB d6_26) rfl rfl ?_
    refine XS.iloadN X0.here hx rfl (hB d6_27) rfl ?_
    refine XS.iload X0.here hx rfl (hB d6_28) rfl ?_
    refine XS.i2b X0.here hx rfl (hB d6_30) rfl ?_
    show Steps _ _ _ (s₁.setTop (mkF m 31 #[.val (.ref a1), .val (.int 0), .val (.ref a2), .val (.int 0), .val (.int 4), .val (.int 0), .val (.int c0)] [(.int (c0.toInt8.toInt32)), .int 0, .ref a2])) _
    refine st318 _ ?_
    show Steps _ _ _ (T318.setTop (mkF m 32 #[.val (.ref a1), .val (.int 0), .val (.ref a2), .val (.int 0), .val (.int 4), .val (.int 0), .val (.int c0)] [])) _
    refine XS.iinc X318.here hx rfl (hB d6_32) rfl (l' := #[.val (.ref a1), .val (.int 1), .val (.ref a2), .val (.int 0), .val (.int 4), .val (.int 0), .val (.int c0)]) rfl ?_
    refine XS.iinc X318.here hx rfl (hB d6_35) rfl (l' := #[.val (.ref a1), .val (.int 1), .val (.ref a2), .val (.int 1), .val (.int 4), .val (.int 0), .val (.int c0)]) rfl ?_
    refine XS.iinc X318.here hx rfl (hB d6_38) rfl (l' := #[.val (.ref a1), .val (.int 1), .val (.ref a2), .val (.int 1), .val (.int 4), .val (.int 1), .val (.int c0)]) rfl ?_
    refine XS.goto X318.here hx rfl (pc0 := 41) (pc' := 3) rfl (hB d6_41) (by decide) (by decide) ?_
    refine XS.iload X318.here hx rfl (hB d6_3) rfl ?_
    refine XS.iload X318.here hx rfl (hB d6_5) rfl ?_
    refine XS.icmpNo X318.here hx rfl (hB d6_7) rfl (tlt (by decide : (1 : Int32) < (4 : Int32))).2.1 ?_
    refine XS.aloadN X318.here hx rfl (hB d6_10) rfl rfl ?_
    refine XS.iloadN X318.here hx rfl (hB d6_11) rfl ?_
    refine X318.caload hx (j := (1 : Int32)) (v := (.int c1)) (own_cell e318 Arq321.1) (State.isArrayOf_alike hZ.alike Arq321.2.1) Arq321.2.2 hinq321 hatq321 (g := (mkF m 12 #[.val (.ref a1), .val (.int 1), .val (.ref a2), .val (.int 1), .val (.int 4), .val (.int 1), .val (.int c0)] [.int 1, .ref a1])) rfl rfl (hB d6_12) _ ?_
    refine XS.istore X318.here hx rfl (hB d6_13) rfl (l' := #[.val (.ref a1), .val (.int 1), .val (.ref a2), .val (.int 1), .val (.int 4), .val (.int 1), .val (.int c1)]) rfl ?_
    refine XS.iload X318.here hx rfl (hB d6_15) rfl ?_
    refine XS.sipush X318.here hx rfl (hB d6_17) ?_
    refine XS.icmpYes X318.here hx rfl (pc0 := 20) (pc' := 26) rfl (hB d6_20) rfl (flt (hl1 : ¬ ((255 : Int32) < c1))).2.2.2 (by decide) (by decide) ?_
    refine XS.aloadN X318.here hx rfl (hB d6_26) rfl rfl ?_
    refine XS.iloadN X318.here hx rfl (hB d6_27) rfl ?_
    show Steps _ _ _ (T318.setTop (mkF m 28 #[.val (.ref a1), .val (.int 1), .val (.ref a2), .val (.int 1), .val (.int 4), .val (.int 1), .val (.int c1)] [.int 1, .ref a2])) _
    refine XS.iload X318.here hx rfl (hB d6_28) rfl ?_
    refine XS.i2b X318.here hx rfl (hB d6_30) rfl ?_
    refine st323 _ ?_
    show Steps _ _ _ (T323.setTop (mkF m 32 #[.val (.ref a1), .val (.int 1), .val (.ref a2), .val (.int 1), .val (.int 4), .val (.int 1), .val (.int c1)] [])) _
    refine XS.iinc X323.here hx rfl (hB d6_32) rfl (l' := #[.val (.ref a1), .val (.int 2), .val (.ref a2), .val (.int 1), .val (.int 4), .val (.int 1), .val (.int c1)]) rfl ?_
    refine XS.iinc X323.here hx rfl (hB d6_35) rfl (l' := #[.val (.ref a1), .val (.int 2), .val (.ref a2), .val (.int 2), .val (.int 4), .val (.int 1), .val (.int c1)]) rfl ?_
    refine XS.iinc X323.here hx rfl (hB d6_38) rfl (l' := #[.val (.ref a1), .val (.int 2), .val (.ref a2), .val (.int 2), .val (.int 4), .val (.int 2), .val (.int c1)]) rfl ?_
    refine XS.goto X323.here hx rfl (pc0 := 41) (pc' := 3) rfl (hB d6_41) (by decide) (by decide) ?_
    refine XS.iload X323.here hx rfl (hB d6_3) rfl ?_
    refine XS.iload X323.here hx rfl (hB d6_5) rfl ?_
    refine XS.icmpNo X323.here hx rfl (hB d6_7) rfl (tlt (by decide : (2 : Int32) < (4 : Int32))).2.1 ?_
    refine XS.aloadN X323.here hx rfl (hB d6_10) rfl rfl ?_
    refine XS.iloadN X323.here hx rfl (hB d6_11) rfl ?_
    refine X323.caload hx (j := (2 : Int32)) (v := (.int c2)) (own_cell e323 Arq326.1) (State.isArrayOf_alike hZ.alike Arq326.2.1) Arq326.2.2 hinq326 hatq326 (g := (mkF m 12 #[.val (.ref a1), .val (.int 2), .val (.ref a2), .val (.int 2), .val (.int 4), .val (.int 2), .val (.int c1)] [.int 2, .ref a1])) rfl rfl (hB d6_12) _ ?_
    refine XS.istore X323.here hx rfl (hB d6_13) rfl (l' := #[.val (.ref a1), .val (.int 2), .val (.ref a2), .val (.int 2), .val (.int 4), .val (.int 2), .val (.int c2)]) rfl ?_
    refine XS.iload X323.here hx rfl (hB d6_15) rfl ?_
    refine XS.sipush X323.here hx rfl (hB d6_17) ?_
    refine XS.icmpYes X323.here hx rfl (pc0 := 20) (pc' := 26) rfl (hB d6_20) rfl (flt (hl2 : ¬ ((255 : Int32) < c2))).2.2.2 (by decide) (by decide) ?_
    refine XS.aloadN X323.here hx rfl (hB d6_26) rfl rfl ?_
    refine XS.iloadN X323.here hx rfl (hB d6_27) rfl ?_
    show Steps _ _ _ (T323.setTop (mkF m 28 #[.val (.ref a1), .val (.int 2), .val (.ref a2), .val (.int 2), .val (.int 4), .val (.int 2), .val (.int c2)] [.int 2, .ref a2])) _
    refine XS.iload X323.here hx rfl (hB d6_28) rfl ?_
    refine XS.i2b X323.here hx rfl (hB d6_30) rfl ?_
    refine st328 _ ?_
    show Steps _ _ _ (T328.setTop (mkF m 32 #[.val (.ref a1), .val (.int 2), .val (.ref a2), .val (.int 2), .val (.int 4), .val (.int 2), .val (.int c2)] [])) _
    refine XS.iinc X328.here hx rfl (hB d6_32) rfl (l' := #[.val (.ref a1), .val (.int 3), .val (.ref a2), .val (.int 2), .val (.int 4), .val (.int 2), .val (.int c2)]) rfl ?_
    refine XS.iinc X328.here hx rfl (hB d6_35) rfl (l' := #[.val (.ref a1), .val (.int 3), .val (.ref a2), .val (.int 3), .val (.int 4), .val (.int 2), .val (.int c2)]) rfl ?_
    refine XS.iinc X328.here hx rfl (hB d6_38) rfl (l' := #[.val (.ref a1), .val (.int 3), .val (.ref a2), .val (.int 3), .val (.int 4), .val (.int 3), .val (.int c2)]) rfl ?_
    refine XS.goto X328.here hx rfl (pc0 := 41) (pc' := 3) rfl (hB d6_41) (by decide) (by decide) ?_
    refine XS.iload X328.here hx rfl (hB d6_3) rfl ?_
    refine XS.iload X328.here hx rfl (hB d6_5) rfl ?_
    refine XS.icmpNo X328.here hx rfl (hB d6_7) rfl (tlt (by decide : (3 : Int32) < (4 : Int32))).2.1 ?_
    refine XS.aloadN X328.here hx rfl (hB d6_10) rfl rfl ?_
    refine XS.iloadN X328.here hx rfl (hB d6_11) rfl ?_
    refine X328.caload hx (j := (3 : Int32)) (v := (.int c3)) (own_cell e328 Arq331.1) (State.isArrayOf_alike hZ.alike Arq331.2.1) Arq331.2.2 hinq331 hatq331 (g := (mkF m 12 #[.val (.ref a1), .val (.int 3), .val (.ref a2), .val (.int 3), .val (.int 4), .val (.int 3), .val (.int c2)] [.int 3, .ref a1])) rfl rfl (hB d6_12) _ ?_
    refine XS.istore X328.here hx rfl (hB d6_13) rfl (l' := #[.val (.ref a1), .val (.int 3), .val (.ref a2), .val (.int 3), .val (.int 4), .val (.int 3), .val (.int c3)]) rfl ?_
    refine XS.iload X328.here hx rfl (hB d6_15) rfl ?_
    refine XS.sipush X328.here hx rfl (hB d6_17) ?_
    refine XS.icmpNo X328.here hx rfl (hB d6_20) rfl (tlt (hwd : (255 : Int32) < c3)).2.2.2 ?_
    refine XS.iload X328.here hx rfl (hB d6_23) rfl ?_
    exact retOut X328 hx Bd.returns rfl (Or.inl ⟨rfl, Or.inl rfl, _, rfl⟩) (hB d6_25) hr
  · show Qc5W4 Z G1 fm a1 a2 ka kb c0 c1 c2 c3 h0 n0 _ T328.heap _
    rw [e328]
    exact ⟨(3 : Int32), rfl, N328, K0_329, ⟨3, c3, rfl, rfl, hwd⟩⟩
theorem rmc5W4 (l : Launch) (Z : State) (a0 : Array Value) (G1 : Int32) (fm : Value) (hG : Glob Z a0 G1 fm) (ws : List Jvm.Cond) (a1 : Addr) (a2 : Addr) (ka : ClassId) (kb : ClassId) (c0 : Int32) (c1 : Int32) (c2 : Int32) (c3 : Int32) (h0 : Heap) (n0 : Nat) (Z0 : n0 ≤ h0.size) (X00 : Old Z n0 h0) (V_a1 : Arv Z h0 a1 ka .char (4 : Int32) [.int c0, .int c1, .int c2, .int c3] (.int 0)) (V_a2 : Arv Z h0 a2 kb .byte (4 : Int32) [.int 0, .int 0, .int 0, .int 0] (.int 0)) (g_a2 : n0 ≤ a2) (ne_a1_a2 : a1 ≠ a2) (hwid : ¬ (¬ ((255 : Int32) < c0) ∧ ¬ ((255 : Int32) < c1) ∧ ¬ ((255 : Int32) < c2) ∧ ¬ ((255 : Int32) < c3))) :
    Met l Z h0 y6 jdk_52_method_21_code 7 (some .int) ws (Room.mk 0 0 0 0) #[.ref a1, .int 0, .ref a2, .int 0, .int 4] (Qc5W4 Z G1 fm a1 a2 ka kb c0 c1 c2 c3 h0 n0) := by
  by_cases q0 : (255 : Int32) < c0
  · exact rmc5W4_0 l Z a0 G1 fm hG ws a1 a2 ka kb c0 c1 c2 c3 h0 n0 Z0 X00 V_a1 V_a2 g_a2 ne_a1_a2 hwid q0
  by_cases q1 : (255 : Int32) < c1
  · exact rmc5W4_1 l Z a0 G1 fm hG ws a1 a2 ka kb c0 c1 c2 c3 h0 n0 Z0 X00 V_a1 V_a2 g_a2 ne_a1_a2 hwid q0 q1
  by_cases q2 : (255 : Int32) < c2
  · exact rmc5W4_2 l Z a0 G1 fm hG ws a1 a2 ka kb c0 c1 c2 c3 h0 n0 Z0 X00 V_a1 V_a2 g_a2 ne_a1_a2 hwid q0 q1 q2
  by_cases q3 : (255 : Int32) < c3
  · exact rmc5W4_3 l Z a0 G1 fm hG ws a1 a2 ka kb c0 c1 c2 c3 h0 n0 Z0 X00 V_a1 V_a2 g_a2 ne_a1_a2 hwid q0 q1 q2 q3
  exact absurd ⟨q0, q1, q2, q3⟩ hwid
def Qnbl4 (Z : State) (G1 : Int32) (fm : Value) (h0 : Heap) (n0 : Nat) (v : Option Value) (h : Heap) (L : List Loc) : Prop := v = some (.int 8) ∧ Fr n0 L ∧ h = h0
theorem rmnbl4 (l : Launch) (Z : State) (a0 : Array Value) (G1 : Int32) (fm : Value) (hG : Glob Z a0 G1 fm) (ws : List Jvm.Cond) (h0 : Heap) (n0 : Nat) (Z0 : n0 ≤ h0.size) (X00 : Old Z n0 h0) :
    Met l Z h0 y7 jdk_52_method_3_code 1 (some .int) ws (Room.mk 0 0 0 0) #[.int 4] (Qnbl4 Z G1 fm h0 n0) := by
  obtain ⟨hw, O_cs, P_cs, O_as, O_hi, O_lo, O_fm, R_fm⟩ := id hG
  have W := @own_W _ _ hw
  refine own_go "java/lang/StringUTF16" rfl (plainFor_of_name pn_java_lang_StringUTF16) ?_
  intro p e s m below meth c s₁ Bd hx hby hml hown hnm X0 e0 hZ
  have hB := @hb _ _ hby
  have N0 := Fr.nil n0
  obtain ⟨fs, hr, hrun, hended, hW, hsame⟩ := X0.leave (v := some (.int 8)) (fun h => by rw [Bd.returns] at h; cases h)
  refine ⟨_, _, castTop (ef_jdk_52_method_3_code_I m (4 : Int32)) ?_, hrun, hended, _, _, rfl, ?_, ⟨_, rfl⟩, hW, hsame.mono (own_ble rfl) (own_ble rfl)⟩
  · show Steps _ _ _ (s₁.setTop (mkF m 0 #[.val (.int 4)] [])) _
    refine XS.iloadN X0.here hx rfl (hB d7_0) rfl ?_
    refine XS.ifYes X0.here hx rfl (pc0 := 1) (pc' := 12) rfl (hB d7_1) rfl ((if0 _ _).trans (flt (by decide : ¬ ((4 : Int32) < (0 : Int32)))).2.1) (by decide) (by decide) ?_
    refine XS.iloadN X0.here hx rfl (hB d7_12) rfl ?_
    refine X0.ldcInt hx hown (mvT hZ (W 96 rfl)) (g := (mkF m 13 #[.val (.int 4)] [.int 4])) rfl (hB d7_13) _ ?_
    refine XS.icmpYes X0.here hx rfl (pc0 := 15) (pc' := 55) rfl (hB d7_15) rfl (tlt (by decide : (4 : Int32) < (1073741823 : Int32))).1 (by decide) (by decide) ?_
    refine XS.iloadN X0.here hx rfl (hB d7_55) rfl ?_
    refine XS.iconst X0.here hx rfl (hB d7_56) ?_
    refine XS.ishl X0.here hx rfl (hB d7_57) rfl ?_
    exact retOut X0 hx Bd.returns rfl (Or.inl ⟨rfl, Or.inl rfl, _, rfl⟩) (hB d7_58) hr
  · show Qnbl4 Z G1 fm h0 n0 _ s₁.heap _
    rw [e0]
    exact ⟨rfl, N0, rfl⟩
def Qnbf4 (Z : State) (G1 : Int32) (fm : Value) (h0 : Heap) (n0 : Nat) (v : Option Value) (h : Heap) (L : List Loc) : Prop := ∃ b : Addr, ∃ kb : ClassId, v = some (.ref b) ∧ Fr n0 L ∧ Keep h0 h [] ∧ h0.size ≤ b ∧ Arv Z h b kb .byte (8 : Int32) [.int 0, .int 0, .int 0, .int 0, .int 0, .int 0, .int 0, .int 0] (.int 0)
theorem rmnbf4 (l : Launch) (Z : State) (a0 : Array Value) (G1 : Int32) (fm : Value) (hG : Glob Z a0 G1 fm) (ws : List Jvm.Cond) (h0 : Heap) (n0 : Nat) (Z0 : n0 ≤ h0.size) (X00 : Old Z n0 h0) :
    Met l Z h0 y8 jdk_52_method_2_code 1 (some (.array .byte)) ws (Room.mk 1 1 8 12) #[.int 4] (Qnbf4 Z G1 fm h0 n0) := by
  obtain ⟨hw, O_cs, P_cs, O_as, O_hi, O_lo, O_fm, R_fm⟩ := id hG
  have W := @own_W _ _ hw
  refine own_go "java/lang/StringUTF16" rfl (plainFor_of_name pn_java_lang_StringUTF16) ?_
  intro p e s m below meth c s₁ Bd hx hby hml hown hnm X0 e0 hZ
  have hB := @hb _ _ hby
  have N0 := Fr.nil n0
  -- pc 1: java/lang/StringUTF16.newBytesLength
  obtain ⟨_, _, ⟨T332, L332, k332, n332⟩, -, X332, ⟨Lc332, hQ332, l332, y332, z332⟩, st332⟩ := Jvm.LawKit.callS X0 hx (y := y7) hown (mvT hZ (W 93 rfl)) (mvT hZ (W 94 rfl)) (mvT hZ (W 76 rfl)) (mvT hZ (W 95 rfl)) (by decide) (backOf (W := 0) (rmnbl4 l Z a0 G1 fm hG [] h0 n0 Z0 X00) hZ (W 95 rfl) (W 76 rfl) (by decide) (by decide)) (g := (mkF m 1 #[.val (.int 4)] [.int 4])) rfl (by rw [hml]; rfl) (argsL := [.int 4]) (rest := []) (lenOf pd__I_I rfl) rfl (by show 2 * 0 + _ ≤ _; exact Nat.le_of_eq rfl) (hB d8_1) (fun _ _ => ⟨rfl, e0, (by decide : 0 + 0 ≤ _), (by decide : 0 + 0 ≤ _)⟩)
  dsimp only [Pt.U, Pt.locs, Pt.cells, Pt.slots] at X332 l332 y332 z332 st332 hQ332
  subst l332 y332 z332
  obtain ⟨rfl, N332q, eq332⟩ := hQ332
  have N332 := Fr.app N0 N332q
  obtain ⟨T333, h333, k333, X333, e333, E333, A333, Q333, st333⟩ := newPE X332 hx hZ (W 23 rfl) eq332 (g := (mkF m 4 #[.val (.int 4)] [.int 8])) rfl (hB d8_4) rfl (by decide) (cap := 8) (by decide) (by decide) (by decide) (by decide) (ad := "[B") rfl
  obtain ⟨b333, g333⟩ : ∃ z, z = h0.size := ⟨_, rfl⟩
  rw [← g333] at A333 Q333 st333
  have Z334 : n0 ≤ h333.size := Nat.le_trans Z0 E333.1
  have K0_334 : Keep h0 h333 [] := (Keep.refl h0 []).ext E333
  have O334 : Old Z n0 h333 := X00.ext E333
  have lo_b333 : h0.size ≤ b333 := Nat.le_of_eq g333.symm
  have g_b333 : n0 ≤ b333 := Nat.le_trans Z0 lo_b333
  have l0_b333 : h0.size ≤ b333 := Nat.le_trans (Keep.refl h0 []).1 lo_b333
  have V_b333 : Arv Z h333 b333 k333 .byte (8 : Int32) [.int 0, .int 0, .int 0, .int 0, .int 0, .int 0, .int 0, .int 0] (.int 0) := (Arv.new A333 (by decide)).pad (pad_rep [] (.int 0) 8)
  obtain ⟨fs, hr, hrun, hended, hW, hsame⟩ := X333.leave (v := some (.ref b333)) (fun h => by rw [Bd.returns] at h; cases h)
  refine ⟨_, _, castTop (ef_jdk_52_method_2_code_I m (4 : Int32)) ?_, hrun, hended, _, _, rfl, ?_, ⟨_, rfl⟩, hW, hsame.mono (own_ble rfl) (own_ble rfl)⟩
  · show Steps _ _ _ (s₁.setTop (mkF m 0 #[.val (.int 4)] [])) _
    refine XS.iloadN X0.here hx rfl (hB d8_0) rfl ?_
    refine st332 _ ?_
    show Steps _ _ _ (T332.setTop (mkF m 4 #[.val (.int 4)] [.int 8])) _
    refine st333 _ ?_
    show Steps _ _ _ (T333.setTop (mkF m 6 #[.val (.int 4)] [.ref b333])) _
    exact retOut X333 hx Bd.returns rfl (Or.inr (Or.inr (Or.inr (Or.inr ⟨rfl, rfl, rfl⟩)))) (hB d8_6) hr
  · show Qnbf4 Z G1 fm h0 n0 _ T333.heap _
    rw [e333]
    exact ⟨b333, k333, rfl, N332, K0_334, l0_b333, V_b333⟩
def Qtob4 (Z : State) (G1 : Int32) (fm : Value) (a1 : Addr) (ka : ClassId) (c0 : Int32) (c1 : Int32) (c2 : Int32) (c3 : Int32) (h0 : Heap) (n0 : Nat) (v : Option Value) (h : Heap) (L : List Loc) : Prop := ∃ b : Addr, ∃ kb : ClassId, v = some (.ref b) ∧ Fr n0 L ∧ Keep h0 h [] ∧ h0.size ≤ b ∧ Arv Z h b kb .byte (8 : Int32) [(.int (((c0 >>> ((0 : Int32) &&& 31)).toInt8.toInt32).toInt8.toInt32)), (.int (((c0 >>> ((8 : Int32) &&& 31)).toInt8.toInt32).toInt8.toInt32)), (.int (((c1 >>> ((0 : Int32) &&& 31)).toInt8.toInt32).toInt8.toInt32)), (.int (((c1 >>> ((8 : Int32) &&& 31)).toInt8.toInt32).toInt8.toInt32)), (.int (((c2 >>> ((0 : Int32) &&& 31)).toInt8.toInt32).toInt8.toInt32)), (.int (((c2 >>> ((8 : Int32) &&& 31)).toInt8.toInt32).toInt8.toInt32)), (.int (((c3 >>> ((0 : Int32) &&& 31)).toInt8.toInt32).toInt8.toInt32)), (.int (((c3 >>> ((8 : Int32) &&& 31)).toInt8.toInt32).toInt8.toInt32))] (.int 0)
theorem rmtob4 (l : Launch) (Z : State) (a0 : Array Value) (G1 : Int32) (fm : Value) (hG : Glob Z a0 G1 fm) (ws : List Jvm.Cond) (a1 : Addr) (ka : ClassId) (c0 : Int32) (c1 : Int32) (c2 : Int32) (c3 : Int32) (h0 : Heap) (n0 : Nat) (Z0 : n0 ≤ h0.size) (X00 : Old Z n0 h0) (V_a1 : Arv Z h0 a1 ka .char (4 : Int32) [.int c0, .int c1, .int c2, .int c3] (.int 0)) :
    Met l Z h0 y9 jdk_52_method_14_code 5 (some (.array .byte)) ws (Room.mk 2 1 8 24) #[.ref a1, .int 0, .int 4] (Qtob4 Z G1 fm a1 ka c0 c1 c2 c3 h0 n0) := by
  obtain ⟨hw, O_cs, P_cs, O_as, O_hi, O_lo, O_fm, R_fm⟩ := id hG
  have W := @own_W _ _ hw
  refine own_go "java/lang/StringUTF16" rfl (plainFor_of_name pn_java_lang_StringUTF16) ?_
  intro p e s m below meth c s₁ Bd hx hby hml hown hnm X0 e0 hZ
  have hB := @hb _ _ hby
  have N0 := Fr.nil n0
  -- pc 1: java/lang/StringUTF16.newBytesFor
  obtain ⟨_, _, ⟨T335, L335, k335, n335⟩, -, X335, ⟨Lc335, hQ335, l335, y335, z335⟩, st335⟩ := Jvm.LawKit.callS X0 hx (y := y8) hown (mvT hZ (W 90 rfl)) (mvT hZ (W 91 rfl)) (mvT hZ (W 76 rfl)) (mvT hZ (W 92 rfl)) (by decide) (backOf (W := 0) (rmnbf4 l Z a0 G1 fm hG [] h0 n0 Z0 X00) hZ (W 92 rfl) (W 76 rfl) (by decide) (by decide)) (g := (mkF m 1 #[.val (.ref a1), .val (.int 0), .val (.int 4), .unset, .unset] [.int 4])) rfl (by rw [hml]; rfl) (argsL := [.int 4]) (rest := []) (lenOf pd__I__B rfl) rfl (by show 2 * 0 + _ ≤ _; exact Nat.le_of_eq rfl) (hB d9_1) (fun _ _ => ⟨rfl, e0, (by decide : 0 + 1 ≤ _), (by decide : 0 + 8 ≤ _)⟩)
  dsimp only [Pt.U, Pt.locs, Pt.cells, Pt.slots] at X335 l335 y335 z335 st335 hQ335
  subst l335 y335 z335
  obtain ⟨b_335, kb_335, rfl, N335q, K335, f335_0, f335_1⟩ := hQ335
  have N335 := Fr.app N0 N335q
  have Z336 : n0 ≤ T335.heap.size := Nat.le_trans Z0 K335.1
  have K0_336 : Keep h0 T335.heap [] := (Keep.refl h0 []).trans K335 all0
  have O336 : Old Z n0 T335.heap := X00.keep K335 all0
  have lo_b_335 : h0.size ≤ b_335 := f335_0
  have g_b_335 : n0 ≤ b_335 := Nat.le_trans Z0 lo_b_335
  have l0_b_335 : h0.size ≤ b_335 := Nat.le_trans (Keep.refl h0 []).1 lo_b_335
  have f337 := (V_a1.keep K335 nin0)
  obtain ⟨clq338, Arq338, qaq338, Sq338, Nq338, Hq338, Gq338⟩ := id f337
  have hinq338 := inb_of (j := (0 : Int32)) Sq338 ⟨by decide, by decide⟩
  have hatq338 := Has.at (v := (.int c0)) Hq338 hinq338 rfl
  -- pc 20: java/lang/StringUTF16.putChar
  obtain ⟨_, _, ⟨T339, L339, k339, n339⟩, -, X339, ⟨Lc339, hQ339, l339, y339, z339⟩, st339⟩ := Jvm.LawKit.callS X335 hx (y := y1) hown (mvT hZ (W 97 rfl)) (mvT hZ (W 98 rfl)) (mvT hZ (W 76 rfl)) (mvT hZ (W 99 rfl)) (by decide) (backOf (W := 0) (rmput l Z a0 G1 fm hG [] b_335 kb_335 (8 : Int32) ([.int 0, .int 0, .int 0, .int 0, .int 0, .int 0, .int 0, .int 0] : List Value) (0 : Int32) 0 c0 T335.heap n0 Z336 O336 f335_1 g_b_335 (by decide) (by decide) (own_ble rfl) (by decide) (by decide) (own_ble rfl)) hZ (W 99 rfl) (W 76 rfl) (by decide) (by decide)) (g := (mkF m 20 #[.val (.ref a1), .val (.int 0), .val (.int 4), .val (.ref b_335), .val (.int 0)] [.int c0, .int 0, .ref b_335])) rfl (by rw [hml]; rfl) (argsL := [.ref b_335, .int 0, .int c0]) (rest := []) (lenOf pd___BII_V rfl) rfl (by show 2 * 0 + _ ≤ _; exact Nat.le_of_eq rfl) (hB d9_20) (fun _ _ => ⟨rfl, rfl, (by decide : 1 + 0 ≤ _), (by decide : 8 + 0 ≤ _)⟩)
  dsimp only [Pt.U, Pt.locs, Pt.cells, Pt.slots] at X339 l339 y339 z339 st339 hQ339
  subst l339 y339 z339
  obtain ⟨rfl, N339q, K339, f339_0⟩ := hQ339
  have N339 := Fr.app N335 N339q
  have Z340 : n0 ≤ T339.heap.size := Nat.le_trans Z336 K339.1
  have K0_340 : Keep h0 T339.heap [] := K0_336.trans K339 (allS (Or.inr l0_b_335) all0)
  have O340 : Old Z n0 T339.heap := O336.keep K339 (allS g_b_335 all0)
  have cv339 : Arv Z T339.heap b_335 kb_335 .byte (8 : Int32) [(.int (((c0 >>> ((0 : Int32) &&& 31)).toInt8.toInt32).toInt8.toInt32)), (.int (((c0 >>> ((8 : Int32) &&& 31)).toInt8.toInt32).toInt8.toInt32)), .int 0, .int 0, .int 0, .int 0, .int 0, .int 0] (.int 0) := f339_0
  have f341 := (f337.keep K339 (ninS (Nat.ne_of_lt (Nat.lt_of_lt_of_le V_a1.lt lo_b_335)) nin0))
  obtain ⟨clq342, Arq342, qaq342, Sq342, Nq342, Hq342, Gq342⟩ := id f341
  have hinq342 := inb_of (j := (1 : Int32)) Sq342 ⟨by decide, by decide⟩
  have hatq342 := Has.at (v := (.int c1)) Hq342 hinq342 rfl
  -- pc 20: java/lang/StringUTF16.putChar
  obtain ⟨_, _, ⟨T343, L343, k343, n343⟩, -, X343, ⟨Lc343, hQ343, l343, y343, z343⟩, st343⟩ := Jvm.LawKit.callS X339 hx (y := y1) hown (mvT hZ (W 97 rfl)) (mvT hZ (W 98 rfl)) (mvT hZ (W 76 rfl)) (mvT hZ (W 99 rfl)) (by decide) (backOf (W := 0) (rmput l Z a0 G1 fm hG [] b_335 kb_335 (8 : Int32) ([(.int (((c0 >>> ((0 : Int32) &&& 31)).toInt8.toInt32).toInt8.toInt32)), (.int (((c0 >>> ((8 : Int32) &&& 31)).toInt8.toInt32).toInt8.toInt32)), .int 0, .int 0, .int 0, .int 0, .int 0, .int 0] : List Value) (1 : Int32) 2 c1 T339.heap n0 Z340 O340 cv339 g_b_335 (by decide) (by decide) (own_ble rfl) (by decide) (by decide) (own_ble rfl)) hZ (W 99 rfl) (W 76 rfl) (by decide) (by decide)) (g := (mkF m 20 #[.val (.ref a1), .val (.int 1), .val (.int 4), .val (.ref b_335), .val (.int 1)] [.int c1, .int 1, .ref b_335])) rfl (by rw [hml]; rfl) (argsL := [.ref b_335, .int 1, .int c1]) (rest := []) (lenOf pd___BII_V rfl) rfl (by show 2 * 0 + _ ≤ _; exact Nat.le_of_eq rfl) (hB d9_20) (fun _ _ => ⟨rfl, rfl, (by decide : 1 + 0 ≤ _), (by decide : 8 + 0 ≤ _)⟩)
  dsimp only [Pt.U, Pt.locs, Pt.cells, Pt.slots] at X343 l343 y343 z343 st343 hQ343
  subst l343 y343 z343
  obtain ⟨rfl, N343q, K343, f343_0⟩ := hQ343
  have N343 := Fr.app N339 N343q
  have Z344 : n0 ≤ T343.heap.size := Nat.le_trans Z340 K343.1
  have K0_344 : Keep h0 T343.heap [] := K0_340.trans K343 (allS (Or.inr l0_b_335) all0)
  have O344 : Old Z n0 T343.heap := O340.keep K343 (allS g_b_335 all0)
  have cv343 : Arv Z T343.heap b_335 kb_335 .byte (8 : Int32) [(.int (((c0 >>> ((0 : Int32) &&& 31)).toInt8.toInt32).toInt8.toInt32)), (.int (((c0 >>> ((8 : Int32) &&& 31)).toInt8.toInt32).toInt8.toInt32)), (.int (((c1 >>> ((0 : Int32) &&& 31)).toInt8.toInt32).toInt8.toInt32)), (.int (((c1 >>> ((8 : Int32) &&& 31)).toInt8.toInt32).toInt8.toInt32)), .int 0, .int 0, .int 0, .int 0] (.int 0) := f343_0
  have f345 := (f341.keep K343 (ninS (Nat.ne_of_lt (Nat.lt_of_lt_of_le V_a1.lt lo_b_335)) nin0))
  obtain ⟨clq346, Arq346, qaq346, Sq346, Nq346, Hq346, Gq346⟩ := id f345
  have hinq346 := inb_of (j := (2 : Int32)) Sq346 ⟨by decide, by decide⟩
  have hatq346 := Has.at (v := (.int c2)) Hq346 hinq346 rfl
  -- pc 20: java/lang/StringUTF16.putChar
  obtain ⟨_, _, ⟨T347, L347, k347, n347⟩, -, X347, ⟨Lc347, hQ347, l347, y347, z347⟩, st347⟩ := Jvm.LawKit.callS X343 hx (y := y1) hown (mvT hZ (W 97 rfl)) (mvT hZ (W 98 rfl)) (mvT hZ (W 76 rfl)) (mvT hZ (W 99 rfl)) (by decide) (backOf (W := 0) (rmput l Z a0 G1 fm hG [] b_335 kb_335 (8 : Int32) ([(.int (((c0 >>> ((0 : Int32) &&& 31)).toInt8.toInt32).toInt8.toInt32)), (.int (((c0 >>> ((8 : Int32) &&& 31)).toInt8.toInt32).toInt8.toInt32)), (.int (((c1 >>> ((0 : Int32) &&& 31)).toInt8.toInt32).toInt8.toInt32)), (.int (((c1 >>> ((8 : Int32) &&& 31)).toInt8.toInt32).toInt8.toInt32)), .int 0, .int 0, .int 0, .int 0] : List Value) (2 : Int32) 4 c2 T343.heap n0 Z344 O344 cv343 g_b_335 (by decide) (by decide) (own_ble rfl) (by decide) (by decide) (own_ble rfl)) hZ (W 99 rfl) (W 76 rfl) (by decide) (by decide)) (g := (mkF m 20 #[.val (.ref a1), .val (.int 2), .val (.int 4), .val (.ref b_335), .val (.int 2)] [.int c2, .int 2, .ref b_335])) rfl (by rw [hml]; rfl) (argsL := [.ref b_335, .int 2, .int c2]) (rest := []) (lenOf pd___BII_V rfl) rfl (by show 2 * 0 + _ ≤ _; exact Nat.le_of_eq rfl) (hB d9_20) (fun _ _ => ⟨rfl, rfl, (by decide : 1 + 0 ≤ _), (by decide : 8 + 0 ≤ _)⟩)
  dsimp only [Pt.U, Pt.locs, Pt.cells, Pt.slots] at X347 l347 y347 z347 st347 hQ347
  subst l347 y347 z347
  obtain ⟨rfl, N347q, K347, f347_0⟩ := hQ347
  have N347 := Fr.app N343 N347q
  have Z348 : n0 ≤ T347.heap.size := Nat.le_trans Z344 K347.1
  have K0_348 : Keep h0 T347.heap [] := K0_344.trans K347 (allS (Or.inr l0_b_335) all0)
  have O348 : Old Z n0 T347.heap := O344.keep K347 (allS g_b_335 all0)
  have cv347 : Arv Z T347.heap b_335 kb_335 .byte (8 : Int32) [(.int (((c0 >>> ((0 : Int32) &&& 31)).toInt8.toInt32).toInt8.toInt32)), (.int (((c0 >>> ((8 : Int32) &&& 31)).toInt8.toInt32).toInt8.toInt32)), (.int (((c1 >>> ((0 : Int32) &&& 31)).toInt8.toInt32).toInt8.toInt32)), (.int (((c1 >>> ((8 : Int32) &&& 31)).toInt8.toInt32).toInt8.toInt32)), (.int (((c2 >>> ((0 : Int32) &&& 31)).toInt8.toInt32).toInt8.toInt32)), (.int (((c2 >>> ((8 : Int32) &&& 31)).toInt8.toInt32).toInt8.toInt32)), .int 0, .int 0] (.int 0) := f347_0
  have f349 := (f345.keep K347 (ninS (Nat.ne_of_lt (Nat.lt_of_lt_of_le V_a1.lt lo_b_335)) nin0))
  obtain ⟨clq350, Arq350, qaq350, Sq350, Nq350, Hq350, Gq350⟩ := id f349
  have hinq350 := inb_of (j := (3 : Int32)) Sq350 ⟨by decide, by decide⟩
  have hatq350 := Has.at (v := (.int c3)) Hq350 hinq350 rfl
  -- pc 20: java/lang/StringUTF16.putChar
  obtain ⟨_, _, ⟨T351, L351, k351, n351⟩, -, X351, ⟨Lc351, hQ351, l351, y351, z351⟩, st351⟩ := Jvm.LawKit.callS X347 hx (y := y1) hown (mvT hZ (W 97 rfl)) (mvT hZ (W 98 rfl)) (mvT hZ (W 76 rfl)) (mvT hZ (W 99 rfl)) (by decide) (backOf (W := 0) (rmput l Z a0 G1 fm hG [] b_335 kb_335 (8 : Int32) ([(.int (((c0 >>> ((0 : Int32) &&& 31)).toInt8.toInt32).toInt8.toInt32)), (.int (((c0 >>> ((8 : Int32) &&& 31)).toInt8.toInt32).toInt8.toInt32)), (.int (((c1 >>> ((0 : Int32) &&& 31)).toInt8.toInt32).toInt8.toInt32)), (.int (((c1 >>> ((8 : Int32) &&& 31)).toInt8.toInt32).toInt8.toInt32)), (.int (((c2 >>> ((0 : Int32) &&& 31)).toInt8.toInt32).toInt8.toInt32)), (.int (((c2 >>> ((8 : Int32) &&& 31)).toInt8.toInt32).toInt8.toInt32)), .int 0, .int 0] : List Value) (3 : Int32) 6 c3 T347.heap n0 Z348 O348 cv347 g_b_335 (by decide) (by decide) (own_ble rfl) (by decide) (by decide) (own_ble rfl)) hZ (W 99 rfl) (W 76 rfl) (by decide) (by decide)) (g := (mkF m 20 #[.val (.ref a1), .val (.int 3), .val (.int 4), .val (.ref b_335), .val (.int 3)] [.int c3, .int 3, .ref b_335])) rfl (by rw [hml]; rfl) (argsL := [.ref b_335, .int 3, .int c3]) (rest := []) (lenOf pd___BII_V rfl) rfl (by show 2 * 0 + _ ≤ _; exact Nat.le_of_eq rfl) (hB d9_20) (fun _ _ => ⟨rfl, rfl, (by decide : 1 + 0 ≤ _), (by decide : 8 + 0 ≤ _)⟩)
  dsimp only [Pt.U, Pt.locs, Pt.cells, Pt.slots] at X351 l351 y351 z351 st351 hQ351
  subst l351 y351 z351
  obtain ⟨rfl, N351q, K351, f351_0⟩ := hQ351
  have N351 := Fr.app N347 N351q
  have Z352 : n0 ≤ T351.heap.size := Nat.le_trans Z348 K351.1
  have K0_352 : Keep h0 T351.heap [] := K0_348.trans K351 (allS (Or.inr l0_b_335) all0)
  have O352 : Old Z n0 T351.heap := O348.keep K351 (allS g_b_335 all0)
  have cv351 : Arv Z T351.heap b_335 kb_335 .byte (8 : Int32) [(.int (((c0 >>> ((0 : Int32) &&& 31)).toInt8.toInt32).toInt8.toInt32)), (.int (((c0 >>> ((8 : Int32) &&& 31)).toInt8.toInt32).toInt8.toInt32)), (.int (((c1 >>> ((0 : Int32) &&& 31)).toInt8.toInt32).toInt8.toInt32)), (.int (((c1 >>> ((8 : Int32) &&& 31)).toInt8.toInt32).toInt8.toInt32)), (.int (((c2 >>> ((0 : Int32) &&& 31)).toInt8.toInt32).toInt8.toInt32)), (.int (((c2 >>> ((8 : Int32) &&& 31)).toInt8.toInt32).toInt8.toInt32)), (.int (((c3 >>> ((0 : Int32) &&& 31)).toInt8.toInt32).toInt8.toInt32)), (.int (((c3 >>> ((8 : Int32) &&& 31)).toInt8.toInt32).toInt8.toInt32))] (.int 0) := f351_0
  obtain ⟨fs, hr, hrun, hended, hW, hsame⟩ := X351.leave (v := some (.ref b_335)) (fun h => by rw [Bd.returns] at h; cases h)
  refine ⟨_, _, castTop (ef_jdk_52_method_14_code_RII m a1 (0 : Int32) (4 : Int32)) ?_, hrun, hended, _, _, rfl, ?_, ⟨_, rfl⟩, hW, hsame.mono (own_ble rfl) (own_ble rfl)⟩
  · show Steps _ _ _ (s₁.setTop (mkF m 0 #[.val (.ref a1), .val (.int 0), .val (.int 4), .unset, .unset] [])) _
    refine XS.iloadN X0.here hx rfl (hB d9_0) rfl ?_
    refine st335 _ ?_
    show Steps _ _ _ (T335.setTop (mkF m 4 #[.val (.ref a1), .val (.int 0), .val (.int 4), .unset, .unset] [.ref b_335])) _
    refine XS.astoreN X335.here hx rfl (hB d9_4) rfl rfl (l' := #[.val (.ref a1), .val (.int 0), .val (.int 4), .val (.ref b_335), .unset]) rfl ?_
    refine XS.iconst X335.here hx rfl (hB d9_5) ?_
    refine XS.istore X335.here hx rfl (hB d9_6) rfl (l' := #[.val (.ref a1), .val (.int 0), .val (.int 4), .val (.ref b_335), .val (.int 0)]) rfl ?_
    refine XS.iload X335.here hx rfl (hB d9_8) rfl ?_
    refine XS.iloadN X335.here hx rfl (hB d9_10) rfl ?_
    refine XS.icmpNo X335.here hx rfl (hB d9_11) rfl (tlt (by decide : (0 : Int32) < (4 : Int32))).2.1 ?_
    refine XS.aloadN X335.here hx rfl (hB d9_14) rfl rfl ?_
    refine XS.iload X335.here hx rfl (hB d9_15) rfl ?_
    refine XS.aloadN X335.here hx rfl (hB d9_17) rfl rfl ?_
    refine XS.iloadN X335.here hx rfl (hB d9_18) rfl ?_
    refine X335.caload hx (j := (0 : Int32)) (v := (.int c0)) (own_cell rfl Arq338.1) (State.isArrayOf_alike hZ.alike Arq338.2.1) Arq338.2.2 hinq338 hatq338 (g := (mkF m 19 #[.val (.ref a1), .val (.int 0), .val (.int 4), .val (.ref b_335), .val (.int 0)] [.int 0, .ref a1, .int 0, .ref b_335])) rfl rfl (hB d9_19) _ ?_
    refine st339 _ ?_
    show Steps _ _ _ (T339.setTop (mkF m 23 #[.val (.ref a1), .val (.int 0), .val (.int 4), .val (.ref b_335), .val (.int 0)] [])) _
    refine XS.iinc X339.here hx rfl (hB d9_23) rfl (l' := #[.val (.ref a1), .val (.int 1), .val (.int 4), .val (.ref b_335), .val (.int 0)]) rfl ?_
    refine XS.iinc X339.here hx rfl (hB d9_26) rfl (l' := #[.val (.ref a1), .val (.int 1), .val (.int 4), .val (.ref b_335), .val (.int 1)]) rfl ?_
    refine XS.goto X339.here hx rfl (pc0 := 29) (pc' := 8) rfl (hB d9_29) (by decide) (by decide) ?_
    refine XS.iload X339.here hx rfl (hB d9_8) rfl ?_
    refine XS.iloadN X339.here hx rfl (hB d9_10) rfl ?_
    refine XS.icmpNo X339.here hx rfl (hB d9_11) rfl (tlt (by decide : (1 : Int32) < (4 : Int32))).2.1 ?_
    refine XS.aloadN X339.here hx rfl (hB d9_14) rfl rfl ?_
    refine XS.iload X339.here hx rfl (hB d9_15) rfl ?_
    refine XS.aloadN X339.here hx rfl (hB d9_17) rfl rfl ?_
    refine XS.iloadN X339.here hx rfl (hB d9_18) rfl ?_
    refine X339.caload hx (j := (1 : Int32)) (v := (.int c1)) (own_cell rfl Arq342.1) (State.isArrayOf_alike hZ.alike Arq342.2.1) Arq342.2.2 hinq342 hatq342 (g := (mkF m 19 #[.val (.ref a1), .val (.int 1), .val (.int 4), .val (.ref b_335), .val (.int 1)] [.int 1, .ref a1, .int 1, .ref b_335])) rfl rfl (hB d9_19) _ ?_
    refine st343 _ ?_
    show Steps _ _ _ (T343.setTop (mkF m 23 #[.val (.ref a1), .val (.int 1), .val (.int 4), .val (.ref b_335), .val (.int 1)] [])) _
    refine XS.iinc X343.here hx rfl (hB d9_23) rfl (l' := #[.val (.ref a1), .val (.int 2), .val (.int 4), .val (.ref b_335), .val (.int 1)]) rfl ?_
    refine XS.iinc X343.here hx rfl (hB d9_26) rfl (l' := #[.val (.ref a1), .val (.int 2), .val (.int 4), .val (.ref b_335), .val (.int 2)]) rfl ?_
    refine XS.goto X343.here hx rfl (pc0 := 29) (pc' := 8) rfl (hB d9_29) (by decide) (by decide) ?_
    refine XS.iload X343.here hx rfl (hB d9_8) rfl ?_
    refine XS.iloadN X343.here hx rfl (hB d9_10) rfl ?_
    refine XS.icmpNo X343.here hx rfl (hB d9_11) rfl (tlt (by decide : (2 : Int32) < (4 : Int32))).2.1 ?_
    refine XS.aloadN X343.here hx rfl (hB d9_14) rfl rfl ?_
    refine XS.iload X343.here hx rfl (hB d9_15) rfl ?_
    refine XS.aloadN X343.here hx rfl (hB d9_17) rfl rfl ?_
    refine XS.iloadN X343.here hx rfl (hB d9_18) rfl ?_
    refine X343.caload hx (j := (2 : Int32)) (v := (.int c2)) (own_cell rfl Arq346.1) (State.isArrayOf_alike hZ.alike Arq346.2.1) Arq346.2.2 hinq346 hatq346 (g := (mkF m 19 #[.val (.ref a1), .val (.int 2), .val (.int 4), .val (.ref b_335), .val (.int 2)] [.int 2, .ref a1, .int 2, .ref b_335])) rfl rfl (hB d9_19) _ ?_
    refine st347 _ ?_
    show Steps _ _ _ (T347.setTop (mkF m 23 #[.val (.ref a1), .val (.int 2), .val (.int 4), .val (.ref b_335), .val (.int 2)] [])) _
    refine XS.iinc X347.here hx rfl (hB d9_23) rfl (l' := #[.val (.ref a1), .val (.int 3), .val (.int 4), .val (.ref b_335), .val (.int 2)]) rfl ?_
    refine XS.iinc X347.here hx rfl (hB d9_26) rfl (l' := #[.val (.ref a1), .val (.int 3), .val (.int 4), .val (.ref b_335), .val (.int 3)]) rfl ?_
    refine XS.goto X347.here hx rfl (pc0 := 29) (pc' := 8) rfl (hB d9_29) (by decide) (by decide) ?_
    refine XS.iload X347.here hx rfl (hB d9_8) rfl ?_
    refine XS.iloadN X347.here hx rfl (hB d9_10) rfl ?_
    refine XS.icmpNo X347.here hx rfl (hB d9_11) rfl (tlt (by decide : (3 : Int32) < (4 : Int32))).2.1 ?_
    refine XS.aloadN X347.here hx rfl (hB d9_14) rfl rfl ?_
    refine XS.iload X347.here hx rfl (hB d9_15) rfl ?_
    refine XS.aloadN X347.here hx rfl (hB d9_17) rfl rfl ?_
    refine XS.iloadN X347.here hx rfl (hB d9_18) rfl ?_
    refine X347.caload hx (j := (3 : Int32)) (v := (.int c3)) (own_cell rfl Arq350.1) (State.isArrayOf_alike hZ.alike Arq350.2.1) Arq350.2.2 hinq350 hatq350 (g := (mkF m 19 #[.val (.ref a1), .val (.int 3), .val (.int 4), .val (.ref b_335), .val (.int 3)] [.int 3, .ref a1, .int 3, .ref b_335])) rfl rfl (hB d9_19) _ ?_
    refine st351 _ ?_
    show Steps _ _ _ (T351.setTop (mkF m 23 #[.val (.ref a1), .val (.int 3), .val (.int 4), .val (.ref b_335), .val (.int 3)] [])) _
    refine XS.iinc X351.here hx rfl (hB d9_23) rfl (l' := #[.val (.ref a1), .val (.int 4), .val (.int 4), .val (.ref b_335), .val (.int 3)]) rfl ?_
    refine XS.iinc X351.here hx rfl (hB d9_26) rfl (l' := #[.val (.ref a1), .val (.int 4), .val (.int 4), .val (.ref b_335), .val (.int 4)]) rfl ?_
    refine XS.goto X351.here hx rfl (pc0 := 29) (pc' := 8) rfl (hB d9_29) (by decide) (by decide) ?_
    refine XS.iload X351.here hx rfl (hB d9_8) rfl ?_
    refine XS.iloadN X351.here hx rfl (hB d9_10) rfl ?_
    refine XS.icmpYes X351.here hx rfl (pc0 := 11) (pc' := 32) rfl (hB d9_11) rfl (flt (by decide : ¬ ((4 : Int32) < (4 : Int32)))).2.1 (by decide) (by decide) ?_
    refine XS.aloadN X351.here hx rfl (hB d9_32) rfl rfl ?_
    exact retOut X351 hx Bd.returns rfl (Or.inr (Or.inr (Or.inr (Or.inr ⟨rfl, rfl, rfl⟩)))) (hB d9_33) hr
  · show Qtob4 Z G1 fm a1 ka c0 c1 c2 c3 h0 n0 _ T351.heap _
    exact ⟨b_335, kb_335, rfl, N351, K0_352, l0_b_335, cv351⟩
def Qc3L4 (Z : State) (G1 : Int32) (fm : Value) (a1 : Addr) (ka : ClassId) (c0 : Int32) (c1 : Int32) (c2 : Int32) (c3 : Int32) (h0 : Heap) (n0 : Nat) (v : Option Value) (h : Heap) (L : List Loc) : Prop := ∃ b : Addr, ∃ kb : ClassId, v = some (.ref b) ∧ Fr n0 L ∧ Keep h0 h [] ∧ h0.size ≤ b ∧ Arv Z h b kb .byte (4 : Int32) [(.int ((c0.toInt8.toInt32).toInt8.toInt32)), (.int ((c1.toInt8.toInt32).toInt8.toInt32)), (.int ((c2.toInt8.toInt32).toInt8.toInt32)), (.int ((c3.toInt8.toInt32).toInt8.toInt32))] (.int 0)
theorem rmc3L4 (l : Launch) (Z : State) (a0 : Array Value) (G1 : Int32) (fm : Value) (hG : Glob Z a0 G1 fm) (ws : List Jvm.Cond) (a1 : Addr) (ka : ClassId) (c0 : Int32) (c1 : Int32) (c2 : Int32) (c3 : Int32) (h0 : Heap) (n0 : Nat) (Z0 : n0 ≤ h0.size) (X00 : Old Z n0 h0) (V_a1 : Arv Z h0 a1 ka .char (4 : Int32) [.int c0, .int c1, .int c2, .int c3] (.int 0)) (hl0 : ¬ ((255 : Int32) < c0)) (hl1 : ¬ ((255 : Int32) < c1)) (hl2 : ¬ ((255 : Int32) < c2)) (hl3 : ¬ ((255 : Int32) < c3)) :
    Met l Z h0 y10 jdk_52_method_16_code 6 (some (.array .byte)) ws (Room.mk 1 1 4 18) #[.ref a1, .int 0, .int 4] (Qc3L4 Z G1 fm a1 ka c0 c1 c2 c3 h0 n0) := by
  obtain ⟨hw, O_cs, P_cs, O_as, O_hi, O_lo, O_fm, R_fm⟩ := id hG
  have W := @own_W _ _ hw
  refine own_go "java/lang/StringUTF16" rfl (plainFor_of_name pn_java_lang_StringUTF16) ?_
  intro p e s m below meth c s₁ Bd hx hby hml hown hnm X0 e0 hZ
  have hB := @hb _ _ hby
  have N0 := Fr.nil n0
  obtain ⟨T353, h353, k353, X353, e353, E353, A353, Q353, st353⟩ := newPE X0 hx hZ (W 23 rfl) e0 (g := (mkF m 1 #[.val (.ref a1), .val (.int 0), .val (.int 4), .unset, .unset, .unset] [.int 4])) rfl (hB d10_1) rfl (by decide) (cap := 4) (by decide) (by decide) (by decide) (by decide) (ad := "[B") rfl
  obtain ⟨b353, g353⟩ : ∃ z, z = h0.size := ⟨_, rfl⟩
  rw [← g353] at A353 Q353 st353
  have Z354 : n0 ≤ h353.size := Nat.le_trans Z0 E353.1
  have K0_354 : Keep h0 h353 [] := (Keep.refl h0 []).ext E353
  have O354 : Old Z n0 h353 := X00.ext E353
  have lo_b353 : h0.size ≤ b353 := Nat.le_of_eq g353.symm
  have g_b353 : n0 ≤ b353 := Nat.le_trans Z0 lo_b353
  have l0_b353 : h0.size ≤ b353 := Nat.le_trans (Keep.refl h0 []).1 lo_b353
  have V_b353 : Arv Z h353 b353 k353 .byte (4 : Int32) [.int 0, .int 0, .int 0, .int 0] (.int 0) := (Arv.new A353 (by decide)).pad (pad_rep [] (.int 0) 4)
  have f356 := (V_a1.ext E353)
  -- pc 9: java/lang/StringUTF16.compress
  obtain ⟨_, _, ⟨T355, L355, k355, n355⟩, -, X355, ⟨Lc355, hQ355, l355, y355, z355⟩, st355⟩ := Jvm.LawKit.callS X353 hx (y := y6) hown (mvT hZ (W 78 rfl)) (mvT hZ (W 79 rfl)) (mvT hZ (W 76 rfl)) (mvT hZ (W 80 rfl)) (by decide) (backOf (W := 0) (rmc5L4 l Z a0 G1 fm hG [] a1 b353 ka k353 c0 c1 c2 c3 h353 n0 Z354 O354 f356 V_b353 g_b353 (Nat.ne_of_lt (Nat.lt_of_lt_of_le V_a1.lt lo_b353)) (by first | assumption | decide | rfl) (by first | assumption | decide | rfl) (by first | assumption | decide | rfl) (by first | assumption | decide | rfl)) hZ (W 80 rfl) (W 76 rfl) (by decide) (by decide)) (g := (mkF m 9 #[.val (.ref a1), .val (.int 0), .val (.int 4), .val (.ref b353), .unset, .unset] [.int 4, .int 0, .ref b353, .int 0, .ref a1])) rfl (by rw [hml]; rfl) (argsL := [.ref a1, .int 0, .ref b353, .int 0, .int 4]) (rest := []) (lenOf pd___CI_BII_I rfl) rfl (by show 2 * 0 + _ ≤ _; exact Nat.le_of_eq rfl) (hB d10_9) (fun _ _ => ⟨rfl, e353, (by decide : 1 + 0 ≤ _), (by decide : 4 + 0 ≤ _)⟩)
  dsimp only [Pt.U, Pt.locs, Pt.cells, Pt.slots] at X355 l355 y355 z355 st355 hQ355
  subst l355 y355 z355
  obtain ⟨rfl, N355q, K355, f355_0⟩ := hQ355
  have N355 := Fr.app N0 N355q
  have Z357 : n0 ≤ T355.heap.size := Nat.le_trans Z354 K355.1
  have K0_357 : Keep h0 T355.heap [] := K0_354.trans K355 (allS (Or.inr l0_b353) all0)
  have O357 : Old Z n0 T355.heap := O354.keep K355 (allS g_b353 all0)
  obtain ⟨fs, hr, hrun, hended, hW, hsame⟩ := X355.leave (v := some (.ref b353)) (fun h => by rw [Bd.returns] at h; cases h)
  refine ⟨_, _, castTop (ef_jdk_52_method_16_code_RII m a1 (0 : Int32) (4 : Int32)) ?_, hrun, hended, _, _, rfl, ?_, ⟨_, rfl⟩, hW, hsame.mono (own_ble rfl) (own_ble rfl)⟩
  · show Steps _ _ _ (s₁.setTop (mkF m 0 #[.val (.ref a1), .val (.int 0), .val (.int 4), .unset, .unset, .unset] [])) _
    refine XS.iloadN X0.here hx rfl (hB d10_0) rfl ?_
    refine st353 _ ?_
    show Steps _ _ _ (T353.setTop (mkF m 3 #[.val (.ref a1), .val (.int 0), .val (.int 4), .unset, .unset, .unset] [.ref b353])) _
    refine XS.astoreN X353.here hx rfl (hB d10_3) rfl rfl (l' := #[.val (.ref a1), .val (.int 0), .val (.int 4), .val (.ref b353), .unset, .unset]) rfl ?_
    refine XS.aloadN X353.here hx rfl (hB d10_4) rfl rfl ?_
    refine XS.iloadN X353.here hx rfl (hB d10_5) rfl ?_
    refine XS.aloadN X353.here hx rfl (hB d10_6) rfl rfl ?_
    refine XS.iconst X353.here hx rfl (hB d10_7) ?_
    refine XS.iloadN X353.here hx rfl (hB d10_8) rfl ?_
    refine st355 _ ?_
    show Steps _ _ _ (T355.setTop (mkF m 12 #[.val (.ref a1), .val (.int 0), .val (.int 4), .val (.ref b353), .unset, .unset] [.int 4])) _
    refine XS.istore X355.here hx rfl (hB d10_12) rfl (l' := #[.val (.ref a1), .val (.int 0), .val (.int 4), .val (.ref b353), .val (.int 4), .unset]) rfl ?_
    refine XS.iload X355.here hx rfl (hB d10_14) rfl ?_
    refine XS.iloadN X355.here hx rfl (hB d10_16) rfl ?_
    refine XS.icmpYes X355.here hx rfl (pc0 := 17) (pc' := 57) rfl (hB d10_17) rfl (teq (by decide : (4 : Int32) = (4 : Int32))).1 (by decide) (by decide) ?_
    refine XS.aloadN X355.here hx rfl (hB d10_57) rfl rfl ?_
    exact retOut X355 hx Bd.returns rfl (Or.inr (Or.inr (Or.inr (Or.inr ⟨rfl, rfl, rfl⟩)))) (hB d10_58) hr
  · show Qc3L4 Z G1 fm a1 ka c0 c1 c2 c3 h0 n0 _ T355.heap _
    exact ⟨b353, k353, rfl, N355, K0_357, l0_b353, f355_0⟩
def Qc3W4 (Z : State) (G1 : Int32) (fm : Value) (a1 : Addr) (ka : ClassId) (c0 : Int32) (c1 : Int32) (c2 : Int32) (c3 : Int32) (h0 : Heap) (n0 : Nat) (v : Option Value) (h : Heap) (L : List Loc) : Prop := ∃ b : Addr, ∃ kb : ClassId, v = some (.ref b) ∧ Fr n0 L ∧ Keep h0 h [] ∧ h0.size ≤ b ∧ Arv Z h b kb .byte (8 : Int32) [(.int (((c0 >>> ((0 : Int32) &&& 31)).toInt8.toInt32).toInt8.toInt32)), (.int (((c0 >>> ((8 : Int32) &&& 31)).toInt8.toInt32).toInt8.toInt32)), (.int (((c1 >>> ((0 : Int32) &&& 31)).toInt8.toInt32).toInt8.toInt32)), (.int (((c1 >>> ((8 : Int32) &&& 31)).toInt8.toInt32).toInt8.toInt32)), (.int (((c2 >>> ((0 : Int32) &&& 31)).toInt8.toInt32).toInt8.toInt32)), (.int (((c2 >>> ((8 : Int32) &&& 31)).toInt8.toInt32).toInt8.toInt32)), (.int (((c3 >>> ((0 : Int32) &&& 31)).toInt8.toInt32).toInt8.toInt32)), (.int (((c3 >>> ((8 : Int32) &&& 31)).toInt8.toInt32).toInt8.toInt32))] (.int 0)
theorem rmc3W4 (l : Launch) (Z : State) (a0 : Array Value) (G1 : Int32) (fm : Value) (hG : Glob Z a0 G1 fm) (ws : List Jvm.Cond) (a1 : Addr) (ka : ClassId) (c0 : Int32) (c1 : Int32) (c2 : Int32) (c3 : Int32) (h0 : Heap) (n0 : Nat) (Z0 : n0 ≤ h0.size) (X00 : Old Z n0 h0) (V_a1 : Arv Z h0 a1 ka .char (4 : Int32) [.int c0, .int c1, .int c2, .int c3] (.int 0)) (hwid : ¬ (¬ ((255 : Int32) < c0) ∧ ¬ ((255 : Int32) < c1) ∧ ¬ ((255 : Int32) < c2) ∧ ¬ ((255 : Int32) < c3))) (hu : ∀ c ∈ ([c0, c1, c2, c3] : List Int32), own_u16 c) :
    Met l Z h0 y10 jdk_52_method_16_code 6 (some (.array .byte)) ws (Room.mk 3 2 12 40) #[.ref a1, .int 0, .int 4] (Qc3W4 Z G1 fm a1 ka c0 c1 c2 c3 h0 n0) := by
  obtain ⟨hw, O_cs, P_cs, O_as, O_hi, O_lo, O_fm, R_fm⟩ := id hG
  have W := @own_W _ _ hw
  refine own_go "java/lang/StringUTF16" rfl (plainFor_of_name pn_java_lang_StringUTF16) ?_
  intro p e s m below meth c s₁ Bd hx hby hml hown hnm X0 e0 hZ
  have hB := @hb _ _ hby
  have N0 := Fr.nil n0
  obtain ⟨T358, h358, k358, X358, e358, E358, A358, Q358, st358⟩ := newPE X0 hx hZ (W 23 rfl) e0 (g := (mkF m 1 #[.val (.ref a1), .val (.int 0), .val (.int 4), .unset, .unset, .unset] [.int 4])) rfl (hB d10_1) rfl (by decide) (cap := 4) (by decide) (by decide) (by decide) (by decide) (ad := "[B") rfl
  obtain ⟨b358, g358⟩ : ∃ z, z = h0.size := ⟨_, rfl⟩
  rw [← g358] at A358 Q358 st358
  have Z359 : n0 ≤ h358.size := Nat.le_trans Z0 E358.1
  have K0_359 : Keep h0 h358 [] := (Keep.refl h0 []).ext E358
  have O359 : Old Z n0 h358 := X00.ext E358
  have lo_b358 : h0.size ≤ b358 := Nat.le_of_eq g358.symm
  have g_b358 : n0 ≤ b358 := Nat.le_trans Z0 lo_b358
  have l0_b358 : h0.size ≤ b358 := Nat.le_trans (Keep.refl h0 []).1 lo_b358
  have V_b358 : Arv Z h358 b358 k358 .byte (4 : Int32) [.int 0, .int 0, .int 0, .int 0] (.int 0) := (Arv.new A358 (by decide)).pad (pad_rep [] (.int 0) 4)
  have f361 := (V_a1.ext E358)
  -- pc 9: java/lang/StringUTF16.compress
  obtain ⟨_, _, ⟨T360, L360, k360, n360⟩, -, X360, ⟨Lc360, hQ360, l360, y360, z360⟩, st360⟩ := Jvm.LawKit.callS X358 hx (y := y6) hown (mvT hZ (W 78 rfl)) (mvT hZ (W 79 rfl)) (mvT hZ (W 76 rfl)) (mvT hZ (W 80 rfl)) (by decide) (backOf (W := 0) (rmc5W4 l Z a0 G1 fm hG [] a1 b358 ka k358 c0 c1 c2 c3 h358 n0 Z359 O359 f361 V_b358 g_b358 (Nat.ne_of_lt (Nat.lt_of_lt_of_le V_a1.lt lo_b358)) (by first | assumption | decide | rfl)) hZ (W 80 rfl) (W 76 rfl) (by decide) (by decide)) (g := (mkF m 9 #[.val (.ref a1), .val (.int 0), .val (.int 4), .val (.ref b358), .unset, .unset] [.int 4, .int 0, .ref b358, .int 0, .ref a1])) rfl (by rw [hml]; rfl) (argsL := [.ref a1, .int 0, .ref b358, .int 0, .int 4]) (rest := []) (lenOf pd___CI_BII_I rfl) rfl (by show 2 * 0 + _ ≤ _; exact Nat.le_of_eq rfl) (hB d10_9) (fun _ _ => ⟨rfl, e358, (by decide : 1 + 0 ≤ _), (by decide : 4 + 0 ≤ _)⟩)
  dsimp only [Pt.U, Pt.locs, Pt.cells, Pt.slots] at X360 l360 y360 z360 st360 hQ360
  subst l360 y360 z360
  obtain ⟨j_360, rfl, N360q, K360, f360_0⟩ := hQ360
  have N360 := Fr.app N0 N360q
  have Z362 : n0 ≤ T360.heap.size := Nat.le_trans Z359 K360.1
  have K0_362 : Keep h0 T360.heap [] := K0_359.trans K360 (allS (Or.inr l0_b358) all0)
  have O362 : Old Z n0 T360.heap := O359.keep K360 (allS g_b358 all0)
  have f364 := (f361.keep K360 (ninS (Nat.ne_of_lt (Nat.lt_of_lt_of_le V_a1.lt lo_b358)) nin0))
  -- pc 23: java/lang/StringUTF16.toBytes
  obtain ⟨_, _, ⟨T363, L363, k363, n363⟩, -, X363, ⟨Lc363, hQ363, l363, y363, z363⟩, st363⟩ := Jvm.LawKit.callS X360 hx (y := y9) hown (mvT hZ (W 87 rfl)) (mvT hZ (W 88 rfl)) (mvT hZ (W 76 rfl)) (mvT hZ (W 89 rfl)) (by decide) (backOf (W := 0) (rmtob4 l Z a0 G1 fm hG [] a1 ka c0 c1 c2 c3 T360.heap n0 Z362 O362 f364) hZ (W 89 rfl) (W 76 rfl) (by decide) (by decide)) (g := (mkF m 23 #[.val (.ref a1), .val (.int 0), .val (.int 4), .val (.ref b358), .val (.int j_360), .unset] [.int 4, .int 0, .ref a1])) rfl (by rw [hml]; rfl) (argsL := [.ref a1, .int 0, .int 4]) (rest := []) (lenOf pd___CII__B rfl) rfl (by show 2 * 0 + _ ≤ _; exact Nat.le_of_eq rfl) (hB d10_23) (fun _ _ => ⟨rfl, rfl, (by decide : 1 + 1 ≤ _), (by decide : 4 + 8 ≤ _)⟩)
  dsimp only [Pt.U, Pt.locs, Pt.cells, Pt.slots] at X363 l363 y363 z363 st363 hQ363
  subst l363 y363 z363
  obtain ⟨b_363, kb_363, rfl, N363q, K363, f363_0, f363_1⟩ := hQ363
  have N363 := Fr.app N360 N363q
  have Z365 : n0 ≤ T363.heap.size := Nat.le_trans Z362 K363.1
  have K0_365 : Keep h0 T363.heap [] := K0_362.trans K363 all0
  have O365 : Old Z n0 T363.heap := O362.keep K363 all0
  have lo_b_363 : T360.heap.size ≤ b_363 := f363_0
  have g_b_363 : n0 ≤ b_363 := Nat.le_trans Z362 lo_b_363
  have l0_b_363 : h0.size ≤ b_363 := Nat.le_trans K0_362.1 lo_b_363
  obtain ⟨K_, c_, hi_, hg_, hw_⟩ := id f360_0
  -- pc 32: java/lang/StringUTF16.getChar
  obtain ⟨_, _, ⟨T366, L366, k366, n366⟩, -, X366, ⟨Lc366, hQ366, l366, y366, z366⟩, st366⟩ := Jvm.LawKit.callS X363 hx (y := y0) hown (mvT hZ (W 103 rfl)) (mvT hZ (W 104 rfl)) (mvT hZ (W 76 rfl)) (mvT hZ (W 105 rfl)) (by decide) (backOf (W := 0) (rmgch l Z a0 G1 fm hG [] b_363 kb_363 (8 : Int32) ([(.int (((c0 >>> ((0 : Int32) &&& 31)).toInt8.toInt32).toInt8.toInt32)), (.int (((c0 >>> ((8 : Int32) &&& 31)).toInt8.toInt32).toInt8.toInt32)), (.int (((c1 >>> ((0 : Int32) &&& 31)).toInt8.toInt32).toInt8.toInt32)), (.int (((c1 >>> ((8 : Int32) &&& 31)).toInt8.toInt32).toInt8.toInt32)), (.int (((c2 >>> ((0 : Int32) &&& 31)).toInt8.toInt32).toInt8.toInt32)), (.int (((c2 >>> ((8 : Int32) &&& 31)).toInt8.toInt32).toInt8.toInt32)), (.int (((c3 >>> ((0 : Int32) &&& 31)).toInt8.toInt32).toInt8.toInt32)), (.int (((c3 >>> ((8 : Int32) &&& 31)).toInt8.toInt32).toInt8.toInt32))] : List Value) j_360 ([c0, c1, c2, c3] : List Int32) K_ c_ T363.heap n0 Z365 O365 f363_1 rfl rfl (own_ble rfl) hu hi_ hg_) hZ (W 105 rfl) (W 76 rfl) (by decide) (by decide)) (g := (mkF m 32 #[.val (.ref a1), .val (.int 0), .val (.int 4), .val (.ref b358), .val (.int j_360), .val (.ref b_363)] [.int j_360, .ref b_363])) rfl (by rw [hml]; rfl) (argsL := [.ref b_363, .int j_360]) (rest := []) (lenOf pd___BI_C rfl) rfl (by show 2 * 0 + _ ≤ _; exact Nat.le_of_eq rfl) (hB d10_32) (fun _ _ => ⟨rfl, rfl, (by decide : 2 + 0 ≤ _), (by decide : 12 + 0 ≤ _)⟩)
  dsimp only [Pt.U, Pt.locs, Pt.cells, Pt.slots] at X366 l366 y366 z366 st366 hQ366
  subst l366 y366 z366
  obtain ⟨rfl, N366q, eq366⟩ := hQ366
  have N366 := Fr.app N363 N366q
  obtain ⟨fs, hr, hrun, hended, hW, hsame⟩ := X366.leave (v := some (.ref b_363)) (fun h => by rw [Bd.returns] at h; cases h)
  refine ⟨_, _, castTop (ef_jdk_52_method_16_code_RII m a1 (0 : Int32) (4 : Int32)) ?_, hrun, hended, _, _, rfl, ?_, ⟨_, rfl⟩, hW, hsame.mono (own_ble rfl) (own_ble rfl)⟩
  · show Steps _ _ _ (s₁.setTop (mkF m 0 #[.val (.ref a1), .val (.int 0), .val (.int 4), .unset, .unset, .unset] [])) _
    refine XS.iloadN X0.here hx rfl (hB d10_0) rfl ?_
    refine st358 _ ?_
    show Steps _ _ _ (T358.setTop (mkF m 3 #[.val (.ref a1), .val (.int 0), .val (.int 4), .unset, .unset, .unset] [.ref b358])) _
    refine XS.astoreN X358.here hx rfl (hB d10_3) rfl rfl (l' := #[.val (.ref a1), .val (.int 0), .val (.int 4), .val (.ref b358), .unset, .unset]) rfl ?_
    refine XS.aloadN X358.here hx rfl (hB d10_4) rfl rfl ?_
    refine XS.iloadN X358.here hx rfl (hB d10_5) rfl ?_
    refine XS.aloadN X358.here hx rfl (hB d10_6) rfl rfl ?_
    refine XS.iconst X358.here hx rfl (hB d10_7) ?_
    refine XS.iloadN X358.here hx rfl (hB d10_8) rfl ?_
    refine st360 _ ?_
    show Steps _ _ _ (T360.setTop (mkF m 12 #[.val (.ref a1), .val (.int 0), .val (.int 4), .val (.ref b358), .unset, .unset] [.int j_360])) _
    refine XS.istore X360.here hx rfl (hB d10_12) rfl (l' := #[.val (.ref a1), .val (.int 0), .val (.int 4), .val (.ref b358), .val (.int j_360), .unset]) rfl ?_
    refine XS.iload X360.here hx rfl (hB d10_14) rfl ?_
    refine XS.iloadN X360.here hx rfl (hB d10_16) rfl ?_
    refine XS.icmpNo X360.here hx rfl (hB d10_17) rfl (feq (own_fne (cs := [c0, c1, c2, c3]) (own_ble rfl) f360_0 : ¬ (j_360 = (4 : Int32)))).1 ?_
    refine XS.aloadN X360.here hx rfl (hB d10_20) rfl rfl ?_
    refine XS.iloadN X360.here hx rfl (hB d10_21) rfl ?_
    refine XS.iloadN X360.here hx rfl (hB d10_22) rfl ?_
    refine st363 _ ?_
    show Steps _ _ _ (T363.setTop (mkF m 26 #[.val (.ref a1), .val (.int 0), .val (.int 4), .val (.ref b358), .val (.int j_360), .unset] [.ref b_363])) _
    refine XS.astore X363.here hx rfl (hB d10_26) rfl rfl (l' := #[.val (.ref a1), .val (.int 0), .val (.int 4), .val (.ref b358), .val (.int j_360), .val (.ref b_363)]) rfl ?_
    refine XS.aload X363.here hx rfl (hB d10_28) rfl rfl ?_
    refine XS.iload X363.here hx rfl (hB d10_30) rfl ?_
    refine st366 _ ?_
    show Steps _ _ _ (T366.setTop (mkF m 35 #[.val (.ref a1), .val (.int 0), .val (.int 4), .val (.ref b358), .val (.int j_360), .val (.ref b_363)] [.int c_])) _
    refine XS.sipush X366.here hx rfl (hB d10_35) ?_
    refine XS.icmpYes X366.here hx rfl (pc0 := 38) (pc' := 54) rfl (hB d10_38) rfl (tlt (hw_ : (255 : Int32) < c_)).2.2.1 (by decide) (by decide) ?_
    refine XS.aload X366.here hx rfl (hB d10_54) rfl rfl ?_
    exact retOut X366 hx Bd.returns rfl (Or.inr (Or.inr (Or.inr (Or.inr ⟨rfl, rfl, rfl⟩)))) (hB d10_56) hr
  · show Qc3W4 Z G1 fm a1 ka c0 c1 c2 c3 h0 n0 _ T366.heap _
    rw [eq366]
    exact ⟨b_363, kb_363, rfl, N366, K0_365, l0_b_363, f363_1⟩
def QcfaL4 (Z : State) (G1 : Int32) (fm : Value) (b : Addr) (kb : ClassId) (vs : List Value) (h0 : Heap) (n0 : Nat) (v : Option Value) (h : Heap) (L : List Loc) : Prop := v = some (.int 0) ∧ Fr n0 L ∧ h = h0
theorem rmcfaL4 (l : Launch) (Z : State) (a0 : Array Value) (G1 : Int32) (fm : Value) (hG : Glob Z a0 G1 fm) (ws : List Jvm.Cond) (b : Addr) (kb : ClassId) (vs : List Value) (h0 : Heap) (n0 : Nat) (Z0 : n0 ≤ h0.size) (X00 : Old Z n0 h0) (V_b : Arv Z h0 b kb .byte (4 : Int32) vs (.int 0)) :
    Met l Z h0 y11 jdk_52_method_15_code 2 (some .byte) ws (Room.mk 0 0 0 0) #[.ref b, .int 4] (QcfaL4 Z G1 fm b kb vs h0 n0) := by
  obtain ⟨hw, O_cs, P_cs, O_as, O_hi, O_lo, O_fm, R_fm⟩ := id hG
  have W := @own_W _ _ hw
  refine own_go "java/lang/StringUTF16" rfl (plainFor_of_name pn_java_lang_StringUTF16) ?_
  intro p e s m below meth c s₁ Bd hx hby hml hown hnm X0 e0 hZ
  have hB := @hb _ _ hby
  have N0 := Fr.nil n0
  obtain ⟨clq367, Arq367, qaq367, Sq367, Nq367, Hq367, Gq367⟩ := id V_b
  obtain ⟨fs, hr, hrun, hended, hW, hsame⟩ := X0.leave (v := some (.int 0)) (fun h => by rw [Bd.returns] at h; cases h)
  refine ⟨_, _, castTop (ef_jdk_52_method_15_code_RI m b (4 : Int32)) ?_, hrun, hended, _, _, rfl, ?_, ⟨_, rfl⟩, hW, hsame.mono (own_ble rfl) (own_ble rfl)⟩
  · show Steps _ _ _ (s₁.setTop (mkF m 0 #[.val (.ref b), .val (.int 4)] [])) _
    refine XS.iloadN X0.here hx rfl (hB d11_0) rfl ?_
    refine XS.aloadN X0.here hx rfl (hB d11_1) rfl rfl ?_
    refine X0.arraylength hx (own_cell e0 Arq367.1) (State.isArrayOf_alike hZ.alike Arq367.2.1) (g := (mkF m 2 #[.val (.ref b), .val (.int 4)] [.ref b, .int 4])) rfl rfl (hB d11_2) _ ?_
    rw [len_of Sq367 Nq367]
    refine XS.isub X0.here hx rfl (hB d11_3) rfl ?_
    refine XS.bipush X0.here hx rfl (hB d11_4) ?_
    refine XS.iushr X0.here hx rfl (hB d11_6) rfl ?_
    refine XS.i2b X0.here hx rfl (hB d11_7) rfl ?_
    exact retN X0 hx (t := .byte) Bd.returns (by simp) (hB d11_8) hr
  · show QcfaL4 Z G1 fm b kb vs h0 n0 _ s₁.heap _
    rw [e0]
    exact ⟨rfl, N0, rfl⟩
def QviL4 (Z : State) (G1 : Int32) (fm : Value) (a1 : Addr) (b : Addr) (ka : ClassId) (c0 : Int32) (c1 : Int32) (c2 : Int32) (c3 : Int32) (h0 : Heap) (n0 : Nat) (v : Option Value) (h : Heap) (L : List Loc) : Prop := ∃ t : Addr, ∃ kb : ClassId, v = none ∧ Fr n0 L ∧ Keep h0 h [a1] ∧ Exa Z h a1 "java/lang/String" ∧ Fld Z h a1 "java/lang/String" "coder" "B" (.int 0) ∧ Fld Z h a1 "java/lang/String" "value" "[B" (.ref t) ∧ Arv Z h t kb .byte (4 : Int32) [(.int ((c0.toInt8.toInt32).toInt8.toInt32)), (.int ((c1.toInt8.toInt32).toInt8.toInt32)), (.int ((c2.toInt8.toInt32).toInt8.toInt32)), (.int ((c3.toInt8.toInt32).toInt8.toInt32))] (.int 0)
theorem rmviL4 (l : Launch) (Z : State) (a0 : Array Value) (G1 : Int32) (fm : Value) (hG : Glob Z a0 G1 fm) (ws : List Jvm.Cond) (a1 : Addr) (b : Addr) (ka : ClassId) (c0 : Int32) (c1 : Int32) (c2 : Int32) (c3 : Int32) (h0 : Heap) (n0 : Nat) (Z0 : n0 ≤ h0.size) (X00 : Old Z n0 h0) (E_a1 : Exa Z h0 a1 "java/lang/String") (g_a1 : n0 ≤ a1) (F_value_a1 : Fld Z h0 a1 "java/lang/String" "value" "[B" .null) (F_coder_a1 : Fld Z h0 a1 "java/lang/String" "coder" "B" (.int 0)) (V_b : Arv Z h0 b ka .char (4 : Int32) [.int c0, .int c1, .int c2, .int c3] (.int 0)) (ne_b_a1 : b ≠ a1) (hl0 : ¬ ((255 : Int32) < c0)) (hl1 : ¬ ((255 : Int32) < c1)) (hl2 : ¬ ((255 : Int32) < c2)) (hl3 : ¬ ((255 : Int32) < c3)) :
    Met l Z h0 y12 jdk_42_method_149_code 6 none ws (Room.mk 2 1 4 35) #[.ref a1, .ref b, .int 0, .int 4, .null] (QviL4 Z G1 fm a1 b ka c0 c1 c2 c3 h0 n0) := by
  obtain ⟨hw, O_cs, P_cs, O_as, O_hi, O_lo, O_fm, R_fm⟩ := id hG
  have W := @own_W _ _ hw
  refine own_go "java/lang/String" rfl (plainFor_of_name pn_java_lang_String) ?_
  intro p e s m below meth c s₁ Bd hx hby hml hown hnm X0 e0 hZ
  have hB := @hb _ _ hby
  have N0 := Fr.nil n0
  obtain ⟨T368, X368, e368, st368⟩ := initO X0 hx hZ hown (W 19 rfl) (W 20 rfl) (W 21 rfl) e0 (g := (mkF m 1 #[.val (.ref a1), .val (.ref b), .val (.int 0), .val (.int 4), .val .null, .unset] [.ref a1])) rfl (by rw [hml]; rfl) rfl (hB d12_1) (by decide) (W := 0) (by show 2 * 0 + _ ≤ _; exact Nat.le_of_eq rfl) (by decide)
  obtain ⟨T369, X369, e369, st369⟩ := getS2 X368 hx hZ hown (host := "") (Or.inl (W 49 rfl)) Via.refl e368 (O_cs.ext X00.2) (g := (mkF m 27 #[.val (.ref a1), .val (.ref b), .val (.int 0), .val (.int 4), .val .null, .unset] [])) rfl (hB d12_27)
  -- pc 36: java/lang/StringUTF16.compress
  obtain ⟨_, _, ⟨T370, L370, k370, n370⟩, -, X370, ⟨Lc370, hQ370, l370, y370, z370⟩, st370⟩ := Jvm.LawKit.callS X369 hx (y := y10) hown (mvT hZ (W 74 rfl)) (mvT hZ (W 75 rfl)) (mvT hZ (W 76 rfl)) (mvT hZ (W 77 rfl)) (by decide) (backOf (W := 0) (rmc3L4 l Z a0 G1 fm hG [] b ka c0 c1 c2 c3 h0 n0 Z0 X00 V_b (by first | assumption | decide | rfl) (by first | assumption | decide | rfl) (by first | assumption | decide | rfl) (by first | assumption | decide | rfl)) hZ (W 77 rfl) (W 76 rfl) (by decide) (by decide)) (g := (mkF m 36 #[.val (.ref a1), .val (.ref b), .val (.int 0), .val (.int 4), .val .null, .unset] [.int 4, .int 0, .ref b])) rfl (by rw [hml]; rfl) (argsL := [.ref b, .int 0, .int 4]) (rest := []) (lenOf pd___CII__B rfl) rfl (by show 2 * 0 + _ ≤ _; exact Nat.le_of_eq rfl) (hB d12_36) (fun _ _ => ⟨rfl, e369, (by decide : 0 + 1 ≤ _), (by decide : 0 + 4 ≤ _)⟩)
  dsimp only [Pt.U, Pt.locs, Pt.cells, Pt.slots] at X370 l370 y370 z370 st370 hQ370
  subst l370 y370 z370
  obtain ⟨b_370, kb_370, rfl, N370q, K370, f370_0, f370_1⟩ := hQ370
  have N370 := Fr.app N0 N370q
  have Z371 : n0 ≤ T370.heap.size := Nat.le_trans Z0 K370.1
  have K0_371 : Keep h0 T370.heap [a1] := (Keep.refl h0 [a1]).trans K370 all0
  have O371 : Old Z n0 T370.heap := X00.keep K370 all0
  have lo_b_370 : h0.size ≤ b_370 := f370_0
  have g_b_370 : n0 ≤ b_370 := Nat.le_trans Z0 lo_b_370
  have l0_b_370 : h0.size ≤ b_370 := Nat.le_trans (Keep.refl h0 [a1]).1 lo_b_370
  -- pc 45: java/lang/StringUTF16.coderFromArrayLen
  obtain ⟨_, _, ⟨T372, L372, k372, n372⟩, -, X372, ⟨Lc372, hQ372, l372, y372, z372⟩, st372⟩ := Jvm.LawKit.callS X370 hx (y := y11) hown (mvT hZ (W 81 rfl)) (mvT hZ (W 82 rfl)) (mvT hZ (W 76 rfl)) (mvT hZ (W 83 rfl)) (by decide) (backOf (W := 1) (rmcfaL4 l Z a0 G1 fm hG [] b_370 kb_370 ([(.int ((c0.toInt8.toInt32).toInt8.toInt32)), (.int ((c1.toInt8.toInt32).toInt8.toInt32)), (.int ((c2.toInt8.toInt32).toInt8.toInt32)), (.int ((c3.toInt8.toInt32).toInt8.toInt32))] : List Value) T370.heap n0 Z371 O371 f370_1) hZ (W 83 rfl) (W 76 rfl) (by decide) (by decide)) (g := (mkF m 45 #[.val (.ref a1), .val (.ref b), .val (.int 0), .val (.int 4), .val .null, .val (.ref b_370)] [.int 4, .ref b_370, .ref a1])) rfl (by rw [hml]; rfl) (argsL := [.ref b_370, .int 4]) (rest := [.ref a1]) (lenOf pd___BI_B rfl) rfl (by show 2 * 0 + _ ≤ _; exact Nat.le_of_eq rfl) (hB d12_45) (fun _ _ => ⟨rfl, rfl, (by decide : 1 + 0 ≤ _), (by decide : 4 + 0 ≤ _)⟩)
  dsimp only [Pt.U, Pt.locs, Pt.cells, Pt.slots] at X372 l372 y372 z372 st372 hQ372
  subst l372 y372 z372
  obtain ⟨rfl, N372q, eq372⟩ := hQ372
  have N372 := Fr.app N370 N372q
  have f373 := (E_a1.keep K370)
  have f374 := (F_coder_a1.keep K370 nin0)
  obtain ⟨T375, h375, X375, e375, W375, st375⟩ := putF X372 hx hZ hown (host := "") (Or.inl (W 29 rfl)) Via.refl eq372 f374 f373 (Or.inr ⟨(W 25 rfl), rfl, hnm⟩) (W 9 rfl) (ty := .byte) (by decide) rfl rfl (g := (mkF m 48 #[.val (.ref a1), .val (.ref b), .val (.int 0), .val (.int 4), .val .null, .val (.ref b_370)] [.int 0, .ref a1])) rfl rfl (hB d12_48)
  have Fw375 := f374.same W375
  have Z376 : n0 ≤ h375.size := Nat.le_trans Z371 (Keep.of_wr W375).1
  have K0_376 : Keep h0 h375 [a1] := K0_371.wr W375 (Or.inl (List.mem_of_getElem? (i := 0) rfl))
  have O376 : Old Z n0 h375 := O371.wr W375 g_a1
  have N375 := Fr.snoc X375 N372 g_a1
  have f377 := (f373.wr W375)
  have f378 := ((F_value_a1.keep K370 nin0).other W375 (Or.inr (slot_ne (Or.inr (W 24 rfl)) (Or.inr (W 25 rfl)) (by decide) (t := (.array .byte)) (t' := .byte) (by decide) (by decide))))
  obtain ⟨T379, h379, X379, e379, W379, st379⟩ := putF X375 hx hZ hown (host := "") (Or.inl (W 28 rfl)) Via.refl e375 f378 f377 (Or.inr ⟨(W 24 rfl), rfl, hnm⟩) (W 9 rfl) (ty := (.array .byte)) (by decide) rfl rfl (g := (mkF m 54 #[.val (.ref a1), .val (.ref b), .val (.int 0), .val (.int 4), .val .null, .val (.ref b_370)] [.ref b_370, .ref a1])) rfl rfl (hB d12_54)
  have Fw379 := f378.same W379
  have Z380 : n0 ≤ h379.size := Nat.le_trans Z376 (Keep.of_wr W379).1
  have K0_380 : Keep h0 h379 [a1] := K0_376.wr W379 (Or.inl (List.mem_of_getElem? (i := 0) rfl))
  have O380 : Old Z n0 h379 := O376.wr W379 g_a1
  have N379 := Fr.snoc X379 N375 g_a1
  have f381 := (f377.wr W379)
  have f382 := (Fw375.other W379 (Or.inr (slot_ne (Or.inr (W 25 rfl)) (Or.inr (W 24 rfl)) (by decide) (t := .byte) (t' := (.array .byte)) (by decide) (by decide))))
  have f383 := ((f370_1.other W375 (Ne.symm (Nat.ne_of_lt (Nat.lt_of_lt_of_le E_a1.lt lo_b_370)))).other W379 (Ne.symm (Nat.ne_of_lt (Nat.lt_of_lt_of_le E_a1.lt lo_b_370))))
  obtain ⟨fs, hr, hrun, hended, hW, hsame⟩ := X379.leave (v := none) (fun _ => rfl)
  refine ⟨_, _, castTop (ef_jdk_42_method_149_code_RRIIN m a1 b (0 : Int32) (4 : Int32)) ?_, hrun, hended, _, _, rfl, ?_, ⟨_, rfl⟩, hW, hsame.mono (own_ble rfl) (own_ble rfl)⟩
  · show Steps _ _ _ (s₁.setTop (mkF m 0 #[.val (.ref a1), .val (.ref b), .val (.int 0), .val (.int 4), .val .null, .unset] [])) _
    refine XS.aloadN X0.here hx rfl (hB d12_0) rfl rfl ?_
    refine st368 _ ?_
    show Steps _ _ _ (T368.setTop (mkF m 4 #[.val (.ref a1), .val (.ref b), .val (.int 0), .val (.int 4), .val .null, .unset] [])) _
    refine XS.iloadN X368.here hx rfl (hB d12_4) rfl ?_
    refine XS.ifYes X368.here hx rfl (pc0 := 5) (pc' := 27) rfl (hB d12_5) rfl ((if0 _ _).trans (feq (by decide : ¬ ((4 : Int32) = (0 : Int32)))).2) (by decide) (by decide) ?_
    refine st369 _ ?_
    show Steps _ _ _ (T369.setTop (mkF m 30 #[.val (.ref a1), .val (.ref b), .val (.int 0), .val (.int 4), .val .null, .unset] [.int G1])) _
    refine XS.ifNo X369.here hx rfl (hB d12_30) rfl ((if0 _ _).trans (feq (P_cs : ¬ (G1 = (0 : Int32)))).1) ?_
    refine XS.aloadN X369.here hx rfl (hB d12_33) rfl rfl ?_
    refine XS.iloadN X369.here hx rfl (hB d12_34) rfl ?_
    refine XS.iloadN X369.here hx rfl (hB d12_35) rfl ?_
    refine st370 _ ?_
    show Steps _ _ _ (T370.setTop (mkF m 39 #[.val (.ref a1), .val (.ref b), .val (.int 0), .val (.int 4), .val .null, .unset] [.ref b_370])) _
    refine XS.astore X370.here hx rfl (hB d12_39) rfl rfl (l' := #[.val (.ref a1), .val (.ref b), .val (.int 0), .val (.int 4), .val .null, .val (.ref b_370)]) rfl ?_
    refine XS.aloadN X370.here hx rfl (hB d12_41) rfl rfl ?_
    refine XS.aload X370.here hx rfl (hB d12_42) rfl rfl ?_
    refine XS.iloadN X370.here hx rfl (hB d12_44) rfl ?_
    refine st372 _ ?_
    show Steps _ _ _ (T372.setTop (mkF m 48 #[.val (.ref a1), .val (.ref b), .val (.int 0), .val (.int 4), .val .null, .val (.ref b_370)] [.int 0, .ref a1])) _
    refine st375 _ ?_
    show Steps _ _ _ (T375.setTop (mkF m 51 #[.val (.ref a1), .val (.ref b), .val (.int 0), .val (.int 4), .val .null, .val (.ref b_370)] [])) _
    refine XS.aloadN X375.here hx rfl (hB d12_51) rfl rfl ?_
    refine XS.aload X375.here hx rfl (hB d12_52) rfl rfl ?_
    refine st379 _ ?_
    show Steps _ _ _ (T379.setTop (mkF m 57 #[.val (.ref a1), .val (.ref b), .val (.int 0), .val (.int 4), .val .null, .val (.ref b_370)] [])) _
    exact X379.returnOut hx Bd.returns (hB d12_57) hr
  · show QviL4 Z G1 fm a1 b ka c0 c1 c2 c3 h0 n0 _ T379.heap _
    rw [e379]
    exact ⟨b_370, kb_370, rfl, N379, K0_380, f381, f382, Fw379, f383⟩
def QcfaW4 (Z : State) (G1 : Int32) (fm : Value) (b : Addr) (kb : ClassId) (vs : List Value) (h0 : Heap) (n0 : Nat) (v : Option Value) (h : Heap) (L : List Loc) : Prop := v = some (.int 1) ∧ Fr n0 L ∧ h = h0
theorem rmcfaW4 (l : Launch) (Z : State) (a0 : Array Value) (G1 : Int32) (fm : Value) (hG : Glob Z a0 G1 fm) (ws : List Jvm.Cond) (b : Addr) (kb : ClassId) (vs : List Value) (h0 : Heap) (n0 : Nat) (Z0 : n0 ≤ h0.size) (X00 : Old Z n0 h0) (V_b : Arv Z h0 b kb .byte (8 : Int32) vs (.int 0)) :
    Met l Z h0 y11 jdk_52_method_15_code 2 (some .byte) ws (Room.mk 0 0 0 0) #[.ref b, .int 4] (QcfaW4 Z G1 fm b kb vs h0 n0) := by
  obtain ⟨hw, O_cs, P_cs, O_as, O_hi, O_lo, O_fm, R_fm⟩ := id hG
  have W := @own_W _ _ hw
  refine own_go "java/lang/StringUTF16" rfl (plainFor_of_name pn_java_lang_StringUTF16) ?_
  intro p e s m below meth c s₁ Bd hx hby hml hown hnm X0 e0 hZ
  have hB := @hb _ _ hby
  have N0 := Fr.nil n0
  obtain ⟨clq387, Arq387, qaq387, Sq387, Nq387, Hq387, Gq387⟩ := id V_b
  obtain ⟨fs, hr, hrun, hended, hW, hsame⟩ := X0.leave (v := some (.int 1)) (fun h => by rw [Bd.returns] at h; cases h)
  refine ⟨_, _, castTop (ef_jdk_52_method_15_code_RI m b (4 : Int32)) ?_, hrun, hended, _, _, rfl, ?_, ⟨_, rfl⟩, hW, hsame.mono (own_ble rfl) (own_ble rfl)⟩
  · show Steps _ _ _ (s₁.setTop (mkF m 0 #[.val (.ref b), .val (.int 4)] [])) _
    refine XS.iloadN X0.here hx rfl (hB d11_0) rfl ?_
    refine XS.aloadN X0.here hx rfl (hB d11_1) rfl rfl ?_
    refine X0.arraylength hx (own_cell e0 Arq387.1) (State.isArrayOf_alike hZ.alike Arq387.2.1) (g := (mkF m 2 #[.val (.ref b), .val (.int 4)] [.ref b, .int 4])) rfl rfl (hB d11_2) _ ?_
    rw [len_of Sq387 Nq387]
    refine XS.isub X0.here hx rfl (hB d11_3) rfl ?_
    refine XS.bipush X0.here hx rfl (hB d11_4) ?_
    refine XS.iushr X0.here hx rfl (hB d11_6) rfl ?_
    refine XS.i2b X0.here hx rfl (hB d11_7) rfl ?_
    exact retN X0 hx (t := .byte) Bd.returns (by simp) (hB d11_8) hr
  · show QcfaW4 Z G1 fm b kb vs h0 n0 _ s₁.heap _
    rw [e0]
    exact ⟨rfl, N0, rfl⟩
def QviW4 (Z : State) (G1 : Int32) (fm : Value) (a1 : Addr) (b : Addr) (ka : ClassId) (c0 : Int32) (c1 : Int32) (c2 : Int32) (c3 : Int32) (h0 : Heap) (n0 : Nat) (v : Option Value) (h : Heap) (L : List Loc) : Prop := ∃ t : Addr, ∃ kb : ClassId, v = none ∧ Fr n0 L ∧ Keep h0 h [a1] ∧ Exa Z h a1 "java/lang/String" ∧ Fld Z h a1 "java/lang/String" "coder" "B" (.int 1) ∧ Fld Z h a1 "java/lang/String" "value" "[B" (.ref t) ∧ Arv Z h t kb .byte (8 : Int32) [(.int (((c0 >>> ((0 : Int32) &&& 31)).toInt8.toInt32).toInt8.toInt32)), (.int (((c0 >>> ((8 : Int32) &&& 31)).toInt8.toInt32).toInt8.toInt32)), (.int (((c1 >>> ((0 : Int32) &&& 31)).toInt8.toInt32).toInt8.toInt32)), (.int (((c1 >>> ((8 : Int32) &&& 31)).toInt8.toInt32).toInt8.toInt32)), (.int (((c2 >>> ((0 : Int32) &&& 31)).toInt8.toInt32).toInt8.toInt32)), (.int (((c2 >>> ((8 : Int32) &&& 31)).toInt8.toInt32).toInt8.toInt32)), (.int (((c3 >>> ((0 : Int32) &&& 31)).toInt8.toInt32).toInt8.toInt32)), (.int (((c3 >>> ((8 : Int32) &&& 31)).toInt8.toInt32).toInt8.toInt32))] (.int 0)
theorem rmviW4 (l : Launch) (Z : State) (a0 : Array Value) (G1 : Int32) (fm : Value) (hG : Glob Z a0 G1 fm) (ws : List Jvm.Cond) (a1 : Addr) (b : Addr) (ka : ClassId) (c0 : Int32) (c1 : Int32) (c2 : Int32) (c3 : Int32) (h0 : Heap) (n0 : Nat) (Z0 : n0 ≤ h0.size) (X00 : Old Z n0 h0) (E_a1 : Exa Z h0 a1 "java/lang/String") (g_a1 : n0 ≤ a1) (F_value_a1 : Fld Z h0 a1 "java/lang/String" "value" "[B" .null) (F_coder_a1 : Fld Z h0 a1 "java/lang/String" "coder" "B" (.int 0)) (V_b : Arv Z h0 b ka .char (4 : Int32) [.int c0, .int c1, .int c2, .int c3] (.int 0)) (ne_b_a1 : b ≠ a1) (hwid : ¬ (¬ ((255 : Int32) < c0) ∧ ¬ ((255 : Int32) < c1) ∧ ¬ ((255 : Int32) < c2) ∧ ¬ ((255 : Int32) < c3))) (hu : ∀ c ∈ ([c0, c1, c2, c3] : List Int32), own_u16 c) :
    Met l Z h0 y12 jdk_42_method_149_code 6 none ws (Room.mk 4 2 12 57) #[.ref a1, .ref b, .int 0, .int 4, .null] (QviW4 Z G1 fm a1 b ka c0 c1 c2 c3 h0 n0) := by
  obtain ⟨hw, O_cs, P_cs, O_as, O_hi, O_lo, O_fm, R_fm⟩ := id hG
  have W := @own_W _ _ hw
  refine own_go "java/lang/String" rfl (plainFor_of_name pn_java_lang_String) ?_
  intro p e s m below meth c s₁ Bd hx hby hml hown hnm X0 e0 hZ
  have hB := @hb _ _ hby
  have N0 := Fr.nil n0
  obtain ⟨T388, X388, e388, st388⟩ := initO X0 hx hZ hown (W 19 rfl) (W 20 rfl) (W 21 rfl) e0 (g := (mkF m 1 #[.val (.ref a1), .val (.ref b), .val (.int 0), .val (.int 4), .val .null, .unset] [.ref a1])) rfl (by rw [hml]; rfl) rfl (hB d12_1) (by decide) (W := 0) (by show 2 * 0 + _ ≤ _; exact Nat.le_of_eq rfl) (by decide)
  obtain ⟨T389, X389, e389, st389⟩ := getS2 X388 hx hZ hown (host := "") (Or.inl (W 49 rfl)) Via.refl e388 (O_cs.ext X00.2) (g := (mkF m 27 #[.val (.ref a1), .val (.ref b), .val (.int 0), .val (.int 4), .val .null, .unset] [])) rfl (hB d12_27)
  -- pc 36: java/lang/StringUTF16.compress
  obtain ⟨_, _, ⟨T390, L390, k390, n390⟩, -, X390, ⟨Lc390, hQ390, l390, y390, z390⟩, st390⟩ := Jvm.LawKit.callS X389 hx (y := y10) hown (mvT hZ (W 74 rfl)) (mvT hZ (W 75 rfl)) (mvT hZ (W 76 rfl)) (mvT hZ (W 77 rfl)) (by decide) (backOf (W := 0) (rmc3W4 l Z a0 G1 fm hG [] b ka c0 c1 c2 c3 h0 n0 Z0 X00 V_b (by first | assumption | decide | rfl) (by first | assumption | decide | rfl)) hZ (W 77 rfl) (W 76 rfl) (by decide) (by decide)) (g := (mkF m 36 #[.val (.ref a1), .val (.ref b), .val (.int 0), .val (.int 4), .val .null, .unset] [.int 4, .int 0, .ref b])) rfl (by rw [hml]; rfl) (argsL := [.ref b, .int 0, .int 4]) (rest := []) (lenOf pd___CII__B rfl) rfl (by show 2 * 0 + _ ≤ _; exact Nat.le_of_eq rfl) (hB d12_36) (fun _ _ => ⟨rfl, e389, (by decide : 0 + 2 ≤ _), (by decide : 0 + 12 ≤ _)⟩)
  dsimp only [Pt.U, Pt.locs, Pt.cells, Pt.slots] at X390 l390 y390 z390 st390 hQ390
  subst l390 y390 z390
  obtain ⟨b_390, kb_390, rfl, N390q, K390, f390_0, f390_1⟩ := hQ390
  have N390 := Fr.app N0 N390q
  have Z391 : n0 ≤ T390.heap.size := Nat.le_trans Z0 K390.1
  have K0_391 : Keep h0 T390.heap [a1] := (Keep.refl h0 [a1]).trans K390 all0
  have O391 : Old Z n0 T390.heap := X00.keep K390 all0
  have lo_b_390 : h0.size ≤ b_390 := f390_0
  have g_b_390 : n0 ≤ b_390 := Nat.le_trans Z0 lo_b_390
  have l0_b_390 : h0.size ≤ b_390 := Nat.le_trans (Keep.refl h0 [a1]).1 lo_b_390
  -- pc 45: java/lang/StringUTF16.coderFromArrayLen
  obtain ⟨_, _, ⟨T392, L392, k392, n392⟩, -, X392, ⟨Lc392, hQ392, l392, y392, z392⟩, st392⟩ := Jvm.LawKit.callS X390 hx (y := y11) hown (mvT hZ (W 81 rfl)) (mvT hZ (W 82 rfl)) (mvT hZ (W 76 rfl)) (mvT hZ (W 83 rfl)) (by decide) (backOf (W := 1) (rmcfaW4 l Z a0 G1 fm hG [] b_390 kb_390 ([(.int (((c0 >>> ((0 : Int32) &&& 31)).toInt8.toInt32).toInt8.toInt32)), (.int (((c0 >>> ((8 : Int32) &&& 31)).toInt8.toInt32).toInt8.toInt32)), (.int (((c1 >>> ((0 : Int32) &&& 31)).toInt8.toInt32).toInt8.toInt32)), (.int (((c1 >>> ((8 : Int32) &&& 31)).toInt8.toInt32).toInt8.toInt32)), (.int (((c2 >>> ((0 : Int32) &&& 31)).toInt8.toInt32).toInt8.toInt32)), (.int (((c2 >>> ((8 : Int32) &&& 31)).toInt8.toInt32).toInt8.toInt32)), (.int (((c3 >>> ((0 : Int32) &&& 31)).toInt8.toInt32).toInt8.toInt32)), (.int (((c3 >>> ((8 : Int32) &&& 31)).toInt8.toInt32).toInt8.toInt32))] : List Value) T390.heap n0 Z391 O391 f390_1) hZ (W 83 rfl) (W 76 rfl) (by decide) (by decide)) (g := (mkF m 45 #[.val (.ref a1), .val (.ref b), .val (.int 0), .val (.int 4), .val .null, .val (.ref b_390)] [.int 4, .ref b_390, .ref a1])) rfl (by rw [hml]; rfl) (argsL := [.ref b_390, .int 4]) (rest := [.ref a1]) (lenOf pd___BI_B rfl) rfl (by show 2 * 0 + _ ≤ _; exact Nat.le_of_eq rfl) (hB d12_45) (fun _ _ => ⟨rfl, rfl, (by decide : 2 + 0 ≤ _), (by decide : 12 + 0 ≤ _)⟩)
  dsimp only [Pt.U, Pt.locs, Pt.cells, Pt.slots] at X392 l392 y392 z392 st392 hQ392
  subst l392 y392 z392
  obtain ⟨rfl, N392q, eq392⟩ := hQ392
  have N392 := Fr.app N390 N392q
  have f393 := (E_a1.keep K390)
  have f394 := (F_coder_a1.keep K390 nin0)
  obtain ⟨T395, h395, X395, e395, W395, st395⟩ := putF X392 hx hZ hown (host := "") (Or.inl (W 29 rfl)) Via.refl eq392 f394 f393 (Or.inr ⟨(W 25 rfl), rfl, hnm⟩) (W 9 rfl) (ty := .byte) (by decide) rfl rfl (g := (mkF m 48 #[.val (.ref a1), .val (.ref b), .val (.int 0), .val (.int 4), .val .null, .val (.ref b_390)] [.int 1, .ref a1])) rfl rfl (hB d12_48)
  have Fw395 := f394.same W395
  have Z396 : n0 ≤ h395.size := Nat.le_trans Z391 (Keep.of_wr W395).1
  have K0_396 : Keep h0 h395 [a1] := K0_391.wr W395 (Or.inl (List.mem_of_getElem? (i := 0) rfl))
  have O396 : Old Z n0 h395 := O391.wr W395 g_a1
  have N395 := Fr.snoc X395 N392 g_a1
  have f397 := (f393.wr W395)
  have f398 := ((F_value_a1.keep K390 nin0).other W395 (Or.inr (slot_ne (Or.inr (W 24 rfl)) (Or.inr (W 25 rfl)) (by decide) (t := (.array .byte)) (t' := .byte) (by decide) (by decide))))
  obtain ⟨T399, h399, X399, e399, W399, st399⟩ := putF X395 hx hZ hown (host := "") (Or.inl (W 28 rfl)) Via.refl e395 f398 f397 (Or.inr ⟨(W 24 rfl), rfl, hnm⟩) (W 9 rfl) (ty := (.array .byte)) (by decide) rfl rfl (g := (mkF m 54 #[.val (.ref a1), .val (.ref b), .val (.int 0), .val (.int 4), .val .null, .val (.ref b_390)] [.ref b_390, .ref a1])) rfl rfl (hB d12_54)
  have Fw399 := f398.same W399
  have Z400 : n0 ≤ h399.size := Nat.le_trans Z396 (Keep.of_wr W399).1
  have K0_400 : Keep h0 h399 [a1] := K0_396.wr W399 (Or.inl (List.mem_of_getElem? (i := 0) rfl))
  have O400 : Old Z n0 h399 := O396.wr W399 g_a1
  have N399 := Fr.snoc X399 N395 g_a1
  have f401 := (f397.wr W399)
  have f402 := (Fw395.other W399 (Or.inr (slot_ne (Or.inr (W 25 rfl)) (Or.inr (W 24 rfl)) (by decide) (t := .byte) (t' := (.array .byte)) (by decide) (by decide))))
  have f403 := ((f390_1.other W395 (Ne.symm (Nat.ne_of_lt (Nat.lt_of_lt_of_le E_a1.lt lo_b_390)))).other W399 (Ne.symm (Nat.ne_of_lt (Nat.lt_of_lt_of_le E_a1.lt lo_b_390))))
  obtain ⟨fs, hr, hrun, hended, hW, hsame⟩ := X399.leave (v := none) (fun _ => rfl)
  refine ⟨_, _, castTop (ef_jdk_42_method_149_code_RRIIN m a1 b (0 : Int32) (4 : Int32)) ?_, hrun, hended, _, _, rfl, ?_, ⟨_, rfl⟩, hW, hsame.mono (own_ble rfl) (own_ble rfl)⟩
  · show Steps _ _ _ (s₁.setTop (mkF m 0 #[.val (.ref a1), .val (.ref b), .val (.int 0), .val (.int 4), .val .null, .unset] [])) _
    refine XS.aloadN X0.here hx rfl (hB d12_0) rfl rfl ?_
    refine st388 _ ?_
    show Steps _ _ _ (T388.setTop (mkF m 4 #[.val (.ref a1), .val (.ref b), .val (.int 0), .val (.int 4), .val .null, .unset] [])) _
    refine XS.iloadN X388.here hx rfl (hB d12_4) rfl ?_
    refine XS.ifYes X388.here hx rfl (pc0 := 5) (pc' := 27) rfl (hB d12_5) rfl ((if0 _ _).trans (feq (by decide : ¬ ((4 : Int32) = (0 : Int32)))).2) (by decide) (by decide) ?_
    refine st389 _ ?_
    show Steps _ _ _ (T389.setTop (mkF m 30 #[.val (.ref a1), .val (.ref b), .val (.int 0), .val (.int 4), .val .null, .unset] [.int G1])) _
    refine XS.ifNo X389.here hx rfl (hB d12_30) rfl ((if0 _ _).trans (feq (P_cs : ¬ (G1 = (0 : Int32)))).1) ?_
    refine XS.aloadN X389.here hx rfl (hB d12_33) rfl rfl ?_
    refine XS.iloadN X389.here hx rfl (hB d12_34) rfl ?_
    refine XS.iloadN X389.here hx rfl (hB d12_35) rfl ?_
    refine st390 _ ?_
    show Steps _ _ _ (T390.setTop (mkF m 39 #[.val (.ref a1), .val (.ref b), .val (.int 0), .val (.int 4), .val .null, .unset] [.ref b_390])) _
    refine XS.astore X390.here hx rfl (hB d12_39) rfl rfl (l' := #[.val (.ref a1), .val (.ref b), .val (.int 0), .val (.int 4), .val .null, .val (.ref b_390)]) rfl ?_
    refine XS.aloadN X390.here hx rfl (hB d12_41) rfl rfl ?_
    refine XS.aload X390.here hx rfl (hB d12_42) rfl rfl ?_
    refine XS.iloadN X390.here hx rfl (hB d12_44) rfl ?_
    refine st392 _ ?_
    show Steps _ _ _ (T392.setTop (mkF m 48 #[.val (.ref a1), .val (.ref b), .val (.int 0), .val (.int 4), .val .null, .val (.ref b_390)] [.int 1, .ref a1])) _
    refine st395 _ ?_
    show Steps _ _ _ (T395.setTop (mkF m 51 #[.val (.ref a1), .val (.ref b), .val (.int 0), .val (.int 4), .val .null, .val (.ref b_390)] [])) _
    refine XS.aloadN X395.here hx rfl (hB d12_51) rfl rfl ?_
    refine XS.aload X395.here hx rfl (hB d12_52) rfl rfl ?_
    refine st399 _ ?_
    show Steps _ _ _ (T399.setTop (mkF m 57 #[.val (.ref a1), .val (.ref b), .val (.int 0), .val (.int 4), .val .null, .val (.ref b_390)] [])) _
    exact X399.returnOut hx Bd.returns (hB d12_57) hr
  · show QviW4 Z G1 fm a1 b ka c0 c1 c2 c3 h0 n0 _ T399.heap _
    rw [e399]
    exact ⟨b_390, kb_390, rfl, N399, K0_400, f401, f402, Fw399, f403⟩
theorem own_all4 {P : Int32 → Prop} {c0 : Int32} {c1 : Int32} {c2 : Int32} {c3 : Int32} (h0 : P c0) (h1 : P c1) (h2 : P c2) (h3 : P c3) : ∀ c ∈ ([c0, c1, c2, c3] : List Int32), P c := by
  intro c hc
  simp only [List.mem_cons, List.not_mem_nil, or_false] at hc
  rcases hc with rfl | rfl | rfl | rfl <;> assumption
def Qini4 (Z : State) (G1 : Int32) (fm : Value) (a1 : Addr) (b : Addr) (ka : ClassId) (c0 : Int32) (c1 : Int32) (c2 : Int32) (c3 : Int32) (h0 : Heap) (n0 : Nat) (v : Option Value) (h : Heap) (L : List Loc) : Prop := ∃ t : Addr, ∃ kb : ClassId, ∃ cd : Int32, ∃ z : Int32, ∃ vs : List Value, v = none ∧ Fr n0 L ∧ Keep h0 h [a1] ∧ Exa Z h a1 "java/lang/String" ∧ Fld Z h a1 "java/lang/String" "coder" "B" (.int cd) ∧ Fld Z h a1 "java/lang/String" "value" "[B" (.ref t) ∧ Arv Z h t kb .byte z vs (.int 0) ∧ own_str cd z vs [c0, c1, c2, c3]
theorem rmini4_L (l : Launch) (Z : State) (a0 : Array Value) (G1 : Int32) (fm : Value) (hG : Glob Z a0 G1 fm) (ws : List Jvm.Cond) (a1 : Addr) (b : Addr) (ka : ClassId) (c0 : Int32) (c1 : Int32) (c2 : Int32) (c3 : Int32) (h0 : Heap) (n0 : Nat) (Z0 : n0 ≤ h0.size) (X00 : Old Z n0 h0) (E_a1 : Exa Z h0 a1 "java/lang/String") (g_a1 : n0 ≤ a1) (F_value_a1 : Fld Z h0 a1 "java/lang/String" "value" "[B" .null) (F_coder_a1 : Fld Z h0 a1 "java/lang/String" "coder" "B" (.int 0)) (V_b : Arv Z h0 b ka .char (4 : Int32) [.int c0, .int c1, .int c2, .int c3] (.int 0)) (ne_b_a1 : b ≠ a1) (hl0 : ¬ ((255 : Int32) < c0)) (hl1 : ¬ ((255 : Int32) < c1)) (hl2 : ¬ ((255 : Int32) < c2)) (hl3 : ¬ ((255 : Int32) < c3)) :
    Met l Z h0 y13 jdk_42_method_3_code 2 none ws (Room.mk 5 2 12 74) #[.ref a1, .ref b] (Qini4 Z G1 fm a1 b ka c0 c1 c2 c3 h0 n0) := by
  obtain ⟨hw, O_cs, P_cs, O_as, O_hi, O_lo, O_fm, R_fm⟩ := id hG
  have W := @own_W _ _ hw
  refine own_go "java/lang/String" rfl (plainFor_of_name pn_java_lang_String) ?_
  intro p e s m below meth c s₁ Bd hx hby hml hown hnm X0 e0 hZ
  have hB := @hb _ _ hby
  have N0 := Fr.nil n0
  obtain ⟨clq384, Arq384, qaq384, Sq384, Nq384, Hq384, Gq384⟩ := id V_b
  -- pc 6: java/lang/String.<init>
  obtain ⟨_, _, ⟨T385, L385, k385, n385⟩, -, X385, ⟨Lc385, hQ385, l385, y385, z385⟩, st385⟩ := X0.specialBack hx (y := y12) rfl hown (mvT hZ (W 15 rfl)) (mvT hZ (W 16 rfl)) (mvT hZ (W 18 rfl)) (by decide) (backOf (W := 0) (rmviL4 l Z a0 G1 fm hG [] a1 b ka c0 c1 c2 c3 h0 n0 Z0 X00 E_a1 g_a1 F_value_a1 F_coder_a1 V_b ne_b_a1 (by first | assumption | decide | rfl) (by first | assumption | decide | rfl) (by first | assumption | decide | rfl) (by first | assumption | decide | rfl)) hZ (W 18 rfl) (W 10 rfl) (by decide) (by decide)) (g := (mkF m 6 #[.val (.ref a1), .val (.ref b)] [.null, .int 4, .int 0, .ref b, .ref a1])) rfl (by rw [hml]; rfl) (Steps.refl _) (a := a1) (argsL := [.ref b, .int 0, .int 4, .null]) (rest := []) (lenOf pd___CIILjava_lang_Void__V rfl) rfl (by show 2 * 0 + _ ≤ _; exact Nat.le_of_eq rfl) (hB d13_6) (fun _ _ => ⟨rfl, e0, (by decide : 0 + 1 ≤ _), (by decide : 0 + 4 ≤ _)⟩)
  dsimp only [Pt.U, Pt.locs, Pt.cells, Pt.slots] at X385 l385 y385 z385 st385 hQ385
  subst l385 y385 z385
  obtain ⟨t_385, kb_385, rfl, N385q, K385, f385_0, f385_1, f385_2, f385_3⟩ := hQ385
  have N385 := Fr.app N0 N385q
  have Z386 : n0 ≤ T385.heap.size := Nat.le_trans Z0 K385.1
  have K0_386 : Keep h0 T385.heap [a1] := (Keep.refl h0 [a1]).trans K385 (allS (Or.inl (List.mem_of_getElem? (i := 0) rfl)) all0)
  have O386 : Old Z n0 T385.heap := X00.keep K385 (allS g_a1 all0)
  obtain ⟨fs, hr, hrun, hended, hW, hsame⟩ := X385.leave (v := none) (fun _ => rfl)
  refine ⟨_, _, castTop (ef_jdk_42_method_3_code_RR m a1 b) ?_, hrun, hended, _, _, rfl, ?_, ⟨_, rfl⟩, hW, hsame.mono (own_ble rfl) (own_ble rfl)⟩
  · show Steps _ _ _ (s₁.setTop (mkF m 0 #[.val (.ref a1), .val (.ref b)] [])) _
    refine XS.aloadN X0.here hx rfl (hB d13_0) rfl rfl ?_
    refine XS.aloadN X0.here hx rfl (hB d13_1) rfl rfl ?_
    refine XS.iconst X0.here hx rfl (hB d13_2) ?_
    refine XS.aloadN X0.here hx rfl (hB d13_3) rfl rfl ?_
    refine X0.arraylength hx (own_cell e0 Arq384.1) (State.isArrayOf_alike hZ.alike Arq384.2.1) (g := (mkF m 4 #[.val (.ref a1), .val (.ref b)] [.ref b, .int 0, .ref b, .ref a1])) rfl rfl (hB d13_4) _ ?_
    rw [len_of Sq384 Nq384]
    refine XS.aconstNull X0.here hx rfl (hB d13_5) ?_
    refine st385.trans ?_
    show Steps _ _ _ (T385.setTop (mkF m 9 #[.val (.ref a1), .val (.ref b)] [])) _
    exact X385.returnOut hx Bd.returns (hB d13_9) hr
  · show Qini4 Z G1 fm a1 b ka c0 c1 c2 c3 h0 n0 _ T385.heap _
    exact ⟨t_385, kb_385, (0 : Int32), (4 : Int32), _, rfl, N385, K0_386, f385_0, f385_1, f385_2, f385_3, Or.inl ⟨rfl, rfl, rfl, own_all4 hl0 hl1 hl2 hl3⟩⟩
theorem rmini4_W (l : Launch) (Z : State) (a0 : Array Value) (G1 : Int32) (fm : Value) (hG : Glob Z a0 G1 fm) (ws : List Jvm.Cond) (a1 : Addr) (b : Addr) (ka : ClassId) (c0 : Int32) (c1 : Int32) (c2 : Int32) (c3 : Int32) (h0 : Heap) (n0 : Nat) (Z0 : n0 ≤ h0.size) (X00 : Old Z n0 h0) (E_a1 : Exa Z h0 a1 "java/lang/String") (g_a1 : n0 ≤ a1) (F_value_a1 : Fld Z h0 a1 "java/lang/String" "value" "[B" .null) (F_coder_a1 : Fld Z h0 a1 "java/lang/String" "coder" "B" (.int 0)) (V_b : Arv Z h0 b ka .char (4 : Int32) [.int c0, .int c1, .int c2, .int c3] (.int 0)) (ne_b_a1 : b ≠ a1) (hwid : ¬ (¬ ((255 : Int32) < c0) ∧ ¬ ((255 : Int32) < c1) ∧ ¬ ((255 : Int32) < c2) ∧ ¬ ((255 : Int32) < c3))) (hu : ∀ c ∈ ([c0, c1, c2, c3] : List Int32), own_u16 c) :
    Met l Z h0 y13 jdk_42_method_3_code 2 none ws (Room.mk 5 2 12 74) #[.ref a1, .ref b] (Qini4 Z G1 fm a1 b ka c0 c1 c2 c3 h0 n0) := by
  obtain ⟨hw, O_cs, P_cs, O_as, O_hi, O_lo, O_fm, R_fm⟩ := id hG
  have W := @own_W _ _ hw
  refine own_go "java/lang/String" rfl (plainFor_of_name pn_java_lang_String) ?_
  intro p e s m below meth c s₁ Bd hx hby hml hown hnm X0 e0 hZ
  have hB := @hb _ _ hby
  have N0 := Fr.nil n0
  obtain ⟨clq404, Arq404, qaq404, Sq404, Nq404, Hq404, Gq404⟩ := id V_b
  -- pc 6: java/lang/String.<init>
  obtain ⟨_, _, ⟨T405, L405, k405, n405⟩, -, X405, ⟨Lc405, hQ405, l405, y405, z405⟩, st405⟩ := X0.specialBack hx (y := y12) rfl hown (mvT hZ (W 15 rfl)) (mvT hZ (W 16 rfl)) (mvT hZ (W 18 rfl)) (by decide) (backOf (W := 0) (rmviW4 l Z a0 G1 fm hG [] a1 b ka c0 c1 c2 c3 h0 n0 Z0 X00 E_a1 g_a1 F_value_a1 F_coder_a1 V_b ne_b_a1 (by first | assumption | decide | rfl) (by first | assumption | decide | rfl)) hZ (W 18 rfl) (W 10 rfl) (by decide) (by decide)) (g := (mkF m 6 #[.val (.ref a1), .val (.ref b)] [.null, .int 4, .int 0, .ref b, .ref a1])) rfl (by rw [hml]; rfl) (Steps.refl _) (a := a1) (argsL := [.ref b, .int 0, .int 4, .null]) (rest := []) (lenOf pd___CIILjava_lang_Void__V rfl) rfl (by show 2 * 0 + _ ≤ _; exact Nat.le_of_eq rfl) (hB d13_6) (fun _ _ => ⟨rfl, e0, (by decide : 0 + 2 ≤ _), (by decide : 0 + 12 ≤ _)⟩)
  dsimp only [Pt.U, Pt.locs, Pt.cells, Pt.slots] at X405 l405 y405 z405 st405 hQ405
  subst l405 y405 z405
  obtain ⟨t_405, kb_405, rfl, N405q, K405, f405_0, f405_1, f405_2, f405_3⟩ := hQ405
  have N405 := Fr.app N0 N405q
  have Z406 : n0 ≤ T405.heap.size := Nat.le_trans Z0 K405.1
  have K0_406 : Keep h0 T405.heap [a1] := (Keep.refl h0 [a1]).trans K405 (allS (Or.inl (List.mem_of_getElem? (i := 0) rfl)) all0)
  have O406 : Old Z n0 T405.heap := X00.keep K405 (allS g_a1 all0)
  obtain ⟨fs, hr, hrun, hended, hW, hsame⟩ := X405.leave (v := none) (fun _ => rfl)
  refine ⟨_, _, castTop (ef_jdk_42_method_3_code_RR m a1 b) ?_, hrun, hended, _, _, rfl, ?_, ⟨_, rfl⟩, hW, hsame.mono (own_ble rfl) (own_ble rfl)⟩
  · show Steps _ _ _ (s₁.setTop (mkF m 0 #[.val (.ref a1), .val (.ref b)] [])) _
    refine XS.aloadN X0.here hx rfl (hB d13_0) rfl rfl ?_
    refine XS.aloadN X0.here hx rfl (hB d13_1) rfl rfl ?_
    refine XS.iconst X0.here hx rfl (hB d13_2) ?_
    refine XS.aloadN X0.here hx rfl (hB d13_3) rfl rfl ?_
    refine X0.arraylength hx (own_cell e0 Arq404.1) (State.isArrayOf_alike hZ.alike Arq404.2.1) (g := (mkF m 4 #[.val (.ref a1), .val (.ref b)] [.ref b, .int 0, .ref b, .ref a1])) rfl rfl (hB d13_4) _ ?_
    rw [len_of Sq404 Nq404]
    refine XS.aconstNull X0.here hx rfl (hB d13_5) ?_
    refine st405.trans ?_
    show Steps _ _ _ (T405.setTop (mkF m 9 #[.val (.ref a1), .val (.ref b)] [])) _
    exact X405.returnOut hx Bd.returns (hB d13_9) hr
  · show Qini4 Z G1 fm a1 b ka c0 c1 c2 c3 h0 n0 _ T405.heap _
    exact ⟨t_405, kb_405, (1 : Int32), (8 : Int32), _, rfl, N405, K0_406, f405_0, f405_1, f405_2, f405_3, Or.inr ⟨rfl, rfl, rfl⟩⟩
theorem rmini4 (l : Launch) (Z : State) (a0 : Array Value) (G1 : Int32) (fm : Value) (hG : Glob Z a0 G1 fm) (ws : List Jvm.Cond) (a1 : Addr) (b : Addr) (ka : ClassId) (c0 : Int32) (c1 : Int32) (c2 : Int32) (c3 : Int32) (h0 : Heap) (n0 : Nat) (Z0 : n0 ≤ h0.size) (X00 : Old Z n0 h0) (E_a1 : Exa Z h0 a1 "java/lang/String") (g_a1 : n0 ≤ a1) (F_value_a1 : Fld Z h0 a1 "java/lang/String" "value" "[B" .null) (F_coder_a1 : Fld Z h0 a1 "java/lang/String" "coder" "B" (.int 0)) (V_b : Arv Z h0 b ka .char (4 : Int32) [.int c0, .int c1, .int c2, .int c3] (.int 0)) (ne_b_a1 : b ≠ a1) (hu : ∀ c ∈ ([c0, c1, c2, c3] : List Int32), own_u16 c) :
    Met l Z h0 y13 jdk_42_method_3_code 2 none ws (Room.mk 5 2 12 74) #[.ref a1, .ref b] (Qini4 Z G1 fm a1 b ka c0 c1 c2 c3 h0 n0) := by
  by_cases hwid : (¬ ((255 : Int32) < c0) ∧ ¬ ((255 : Int32) < c1) ∧ ¬ ((255 : Int32) < c2) ∧ ¬ ((255 : Int32) < c3))
  · obtain ⟨hl0, hl1, hl2, hl3⟩ := hwid
    exact rmini4_L l Z a0 G1 fm hG ws a1 b ka c0 c1 c2 c3 h0 n0 Z0 X00 E_a1 g_a1 F_value_a1 F_coder_a1 V_b ne_b_a1 hl0 hl1 hl2 hl3
  · exact rmini4_W l Z a0 G1 fm hG ws a1 b ka c0 c1 c2 c3 h0 n0 Z0 X00 E_a1 g_a1 F_value_a1 F_coder_a1 V_b ne_b_a1 hwid hu
def own_has : List Int32 → Int32
  | [] => 0
  | c :: cs => if c = (45 : Int32) then 1 else own_has cs
def own_rs (cs : List Int32) (r : Int32) : Prop := (own_has cs = 0 ∧ r = (-1 : Int32)) ∨ (own_has cs = 1 ∧ ¬ r < (0 : Int32))
theorem own_h1 {c : Int32} {cs : List Int32} (h : c = (45 : Int32)) : own_has (c :: cs) = 1 := if_pos h
theorem own_h0 {c : Int32} {cs : List Int32} (h : ¬ c = (45 : Int32)) : own_has (c :: cs) = own_has cs := if_neg h
theorem own_rsj {cs : List Int32} {r : Int32} (h : own_rs cs r) : nar .boolean (if r < (0 : Int32) then (0 : Int32) else (1 : Int32)) = own_has cs := by
  rcases h with ⟨h1, rfl⟩ | ⟨h1, h2⟩
  · rw [h1]
    decide
  · rw [h1, if_neg h2]
    decide
theorem own_lb45 {c : Int32} (h : own_u16 c) (hl : ¬ (255 : Int32) < c) : ((c.toInt8.toInt32).toInt8.toInt32) = (45 : Int32) ↔ c = (45 : Int32) := by
  have h1 := own_rng h
  rw [Int32.lt_iff_toInt_lt] at hl
  have e2 : (255 : Int32).toInt = 255 := rfl
  have e3 : (45 : Int32).toInt = 45 := rfl
  have a1 := c_i2b c
  have a2 := c_i2b (c.toInt8.toInt32)
  rw [← Int32.toInt_inj, ← Int32.toInt_inj]
  omega
theorem own_irr {a b : Int32} (h : a = b) : ¬ b < a := by rw [h]; exact fun q => Int32.lt_irrefl q
theorem own_nn0 {nn : Int32} {cs : List Int32} (hn : cs.length < 5) (en : nn = Int32.ofNat cs.length) : ¬ nn < (0 : Int32) := by
  subst en
  exact (by decide +kernel : ∀ n : Fin 5, ¬ (Int32.ofNat n.val) < (0 : Int32)) ⟨_, hn⟩
theorem own_zz {z nn : Int32} {cs : List Int32} (hz : z = Int32.ofNat (2 * cs.length)) (hn : cs.length < 5) (en : nn = Int32.ofNat cs.length) : nn = (z >>> ((1 : Int32) &&& 31)) := by
  subst hz
  exact en.trans (own_num3 ⟨_, hn⟩).2.symm
theorem d12_8 : decode jdk_42_method_149_code 8 = .ok (.aload_n 0, 1) := by decide +kernel
theorem d12_9 : decode jdk_42_method_149_code 9 = .ok (.ldc 7, 2) := by decide +kernel
theorem d12_11 : decode jdk_42_method_149_code 11 = .ok (.getfield 9, 3) := by decide +kernel
theorem d12_14 : decode jdk_42_method_149_code 14 = .ok (.putfield 9, 3) := by decide +kernel
theorem d12_17 : decode jdk_42_method_149_code 17 = .ok (.aload_n 0, 1) := by decide +kernel
theorem d12_18 : decode jdk_42_method_149_code 18 = .ok (.ldc 7, 2) := by decide +kernel
theorem d12_20 : decode jdk_42_method_149_code 20 = .ok (.getfield 15, 3) := by decide +kernel
theorem d12_23 : decode jdk_42_method_149_code 23 = .ok (.putfield 15, 3) := by decide +kernel
theorem d12_26 : decode jdk_42_method_149_code 26 = .ok (.return_, 1) := by decide +kernel
def Qsvz (Z : State) (G1 : Int32) (fm : Value) (a1 : Addr) (b : Addr) (h0 : Heap) (n0 : Nat) (v : Option Value) (h : Heap) (L : List Loc) : Prop := ∃ t : Addr, ∃ kb : ClassId, v = none ∧ Fr n0 L ∧ Keep h0 h [a1] ∧ Exa Z h a1 "java/lang/String" ∧ Fld Z h a1 "java/lang/String" "coder" "B" (.int 0) ∧ Fld Z h a1 "java/lang/String" "value" "[B" (.ref t) ∧ Arv Z h t kb .byte (0 : Int32) ([]) (.int 0)
theorem rmsvz (l : Launch) (Z : State) (a0 : Array Value) (G1 : Int32) (fm : Value) (hG : Glob Z a0 G1 fm) (ws : List Jvm.Cond) (a1 : Addr) (b : Addr) (h0 : Heap) (n0 : Nat) (Z0 : n0 ≤ h0.size) (X00 : Old Z n0 h0) (E_a1 : Exa Z h0 a1 "java/lang/String") (g_a1 : n0 ≤ a1) (F_value_a1 : Fld Z h0 a1 "java/lang/String" "value" "[B" .null) (F_coder_a1 : Fld Z h0 a1 "java/lang/String" "coder" "B" (.int 0)) :
    MetFree l y12 (head1 (Jvm.Cond.code y12 jdk_42_method_149_code 6 none :: ws) (Room.mk 1 4 8 12)) (fun a U => a = #[.ref a1, .ref b, .int 0, .int 0, .null] ∧ Z.Warmed39 U.vm ∧ U.heap = h0 ∧ CHv Z own_EL U.vm h0) (fun _ _ _ _ _ => True) (fun _ U o U' => ∃ v L, o = .returned v ∧ Qsvz Z G1 fm a1 b h0 n0 v U'.heap L ∧ CHr Z own_EL U.vm U.heap U'.vm U'.heap ∧ ReturnedEndW U o U' L 4 8) := by
  obtain ⟨hw, O_cs, P_cs, O_as, O_hi, O_lo, O_fm, R_fm⟩ := id hG
  have W := @own_W _ _ hw
  refine MetFree.of_bodySF (plainFor_of_name pn_java_lang_String) hisR ?_
  intro p e s m args below meth c s₁ Bd hml0 hP hK
  obtain ⟨rfl, hZ, hh, hCH⟩ := hP
  have hx := Bd.exec
  have hby := Bd.bytes
  have hB := @hb _ _ hby
  have hml : c.maxLocals = 6 := hml0
  have hown : s.vm.findClass "java/lang/String" = some m.cls := findClass_of_methodNamed Bd.named
  have hnm := (name_of_methodNamed Bd.named Bd.method).1
  have X0 : Stand p l e (Room.mk 1 4 8 12) (s.setVm s.vm) m #[.ref a1, .ref b, .int 0, .int 0, .null] below meth c s₁ [] 0 0 := Stand.of_body Bd
  have e0 : s₁.heap = h0 := by rw [← hh, Bd.state]; rfl
  have hS0 : s.Since s.vm h0.size := (State.WarmedH.refl s).since _
  have hk0 : h0.size ≤ h0.size := Nat.le_refl _
  have R0 : CHr Z own_EL s.vm h0 s.vm h0 := CHr.refl hCH
  have hEL := own_ew hw
  have N0 := Fr.nil n0
  have pre0 : ∀ t, Steps p.tables e below (s₁.setTop (mkF m 0 #[.val (.ref a1), .val (.ref b), .val (.int 0), .val (.int 0), .val .null, .unset] [])) t → Steps p.tables e below (s₁.setTop (entryFrame m #[.ref a1, .ref b, .int 0, .int 0, .null] 6)) t := fun t kk_ => castTop (ef_jdk_42_method_149_code_RRIIN m a1 b (0 : Int32) (0 : Int32)) kk_
  have sf0_a1 : Safe Z own_EL s.vm h0 a1 := own_safeS hZ.alike E_a1 F_value_a1
  obtain ⟨T407, X407, e407, st407⟩ := initO X0 hx hZ hown (W 19 rfl) (W 20 rfl) (W 21 rfl) e0 (g := (mkF m 1 #[.val (.ref a1), .val (.ref b), .val (.int 0), .val (.int 0), .val .null, .unset] [.ref a1])) rfl (by rw [hml]; rfl) rfl (hB d12_1) (by decide) (W := 0) (by show 2 * 0 + _ ≤ _; exact Nat.le_of_eq rfl) (by decide)
  obtain ⟨a408, T408, h408, k408, b408, kb408, X408, e408, E408, hS408, hk408, hZ408, hw408, Ea408, Ca408, Va408, Ba408, la408, lb408, hC408, -, hne408, st408⟩ := ldcCH X407 hx hZ hown (W 22 rfl) (own_sa hw) e407 hS0 hk0 hEL (by decide) R0.1 (vs := []) (z := (0 : Int32)) ⟨by decide, by decide +kernel⟩ (by decide) (by decide) (g := (mkF m 9 #[.val (.ref a1), .val (.ref b), .val (.int 0), .val (.int 0), .val .null, .unset] [.ref a1])) rfl (hB d12_9) (n := 0) (by decide) (by decide) (by decide) (by decide)
  have Z409 : n0 ≤ h408.size := Nat.le_trans Z0 E408.1
  have K0_409 : Keep h0 h408 [a1] := (Keep.refl h0 [a1]).ext E408
  have O409 : Old Z n0 h408 := X00.ext E408
  have sf408_a1 : Safe Z own_EL T408.vm h408 a1 := hC408.safe E_a1.lt sf0_a1
  have Rb408 : CHr Z own_EL s.vm h0 T408.vm h408 := R0.trans hC408
  have ns408_a1 := hne408 _ sf408_a1
  obtain ⟨T410, X410, e410, st410⟩ := getF X408 hx hZ408 hw408 (host := "") (Or.inl (W 28 rfl)) Via.refl e408 Va408 (g := (mkF m 11 #[.val (.ref a1), .val (.ref b), .val (.int 0), .val (.int 0), .val .null, .unset] [.ref a408, .ref a1])) rfl rfl (hB d12_11)
  have f411 := (E_a1.ext E408)
  have f412 := (F_value_a1.ext E408)
  obtain ⟨T413, h413, X413, e413, W413, st413⟩ := putF X410 hx hZ408 hw408 (host := "") (Or.inl (W 28 rfl)) Via.refl e410 f412 f411 (Or.inr ⟨(W 24 rfl), rfl, hnm⟩) (W 9 rfl) (ty := (.array .byte)) (by decide) rfl rfl (g := (mkF m 14 #[.val (.ref a1), .val (.ref b), .val (.int 0), .val (.int 0), .val .null, .unset] [.ref b408, .ref a1])) rfl rfl (hB d12_14)
  have Fw413 := f412.same W413
  have Z414 : n0 ≤ h413.size := Nat.le_trans Z409 (Keep.of_wr W413).1
  have K0_414 : Keep h0 h413 [a1] := K0_409.wr W413 (Or.inl (List.mem_of_getElem? (i := 0) rfl))
  have O414 : Old Z n0 h413 := O409.wr W413 g_a1
  have R414 : CHr Z own_EL s.vm h0 T408.vm h413 := Rb408.trans (CHr.wr W413 sf408_a1 Rb408.1)
  have hk414 : k408 ≤ h413.size := Nat.le_trans hk408 (Keep.of_wr W413).1
  have sf414_a1 : Safe Z own_EL T408.vm h413 a1 := Safe.wr W413 sf408_a1 Rb408.1 sf408_a1
  have N413 := Fr.snoc X413 N0 g_a1
  obtain ⟨a415, T415, h415, k415, b415, kb415, X415, e415, E415, hS415, hk415, hZ415, hw415, Ea415, Ca415, Va415, Ba415, la415, lb415, hC415, -, hne415, st415⟩ := ldcCH X413 hx hZ408 hw408 (W 22 rfl) (own_sa hw) e413 hS408 hk414 hEL (by decide) R414.1 (vs := []) (z := (0 : Int32)) ⟨by decide, by decide +kernel⟩ (by decide) (by decide) (g := (mkF m 18 #[.val (.ref a1), .val (.ref b), .val (.int 0), .val (.int 0), .val .null, .unset] [.ref a1])) rfl (hB d12_18) (n := 0) (by decide) (by decide) (by decide) (by decide)
  have Z416 : n0 ≤ h415.size := Nat.le_trans Z414 E415.1
  have K0_416 : Keep h0 h415 [a1] := K0_414.ext E415
  have O416 : Old Z n0 h415 := O414.ext E415
  have f417 := (f411.wr W413)
  have sf415_a1 : Safe Z own_EL T415.vm h415 a1 := hC415.safe f417.lt sf414_a1
  have Rb415 : CHr Z own_EL s.vm h0 T415.vm h415 := R414.trans hC415
  have ns415_a1 := hne415 _ sf415_a1
  obtain ⟨T418, X418, e418, st418⟩ := getF X415 hx hZ415 hw415 (host := "") (Or.inl (W 29 rfl)) Via.refl e415 Ca415 (g := (mkF m 20 #[.val (.ref a1), .val (.ref b), .val (.int 0), .val (.int 0), .val .null, .unset] [.ref a415, .ref a1])) rfl rfl (hB d12_20)
  have f419 := (f417.ext E415)
  have f420 := (((F_coder_a1.ext E408).other W413 (Or.inr (slot_ne (Or.inr (W 25 rfl)) (Or.inr (W 24 rfl)) (by decide) (t := .byte) (t' := (.array .byte)) (by decide) (by decide)))).ext E415)
  obtain ⟨T421, h421, X421, e421, W421, st421⟩ := putF X418 hx hZ415 hw415 (host := "") (Or.inl (W 29 rfl)) Via.refl e418 f420 f419 (Or.inr ⟨(W 25 rfl), rfl, hnm⟩) (W 9 rfl) (ty := .byte) (by decide) rfl rfl (g := (mkF m 23 #[.val (.ref a1), .val (.ref b), .val (.int 0), .val (.int 0), .val .null, .unset] [.int 0, .ref a1])) rfl rfl (hB d12_23)
  have Fw421 := f420.same W421
  have Z422 : n0 ≤ h421.size := Nat.le_trans Z416 (Keep.of_wr W421).1
  have K0_422 : Keep h0 h421 [a1] := K0_416.wr W421 (Or.inl (List.mem_of_getElem? (i := 0) rfl))
  have O422 : Old Z n0 h421 := O416.wr W421 g_a1
  have R422 : CHr Z own_EL s.vm h0 T415.vm h421 := Rb415.trans (CHr.wr W421 sf415_a1 Rb415.1)
  have hk422 : k415 ≤ h421.size := Nat.le_trans hk415 (Keep.of_wr W421).1
  have sf422_a1 : Safe Z own_EL T415.vm h421 a1 := Safe.wr W421 sf415_a1 Rb415.1 sf415_a1
  have N421 := Fr.snoc X421 N413 g_a1
  have f423 := (f419.wr W421)
  have f424 := ((Fw413.ext E415).other W421 (Or.inr (slot_ne (Or.inr (W 24 rfl)) (Or.inr (W 25 rfl)) (by decide) (t := (.array .byte)) (t' := .byte) (by decide) (by decide))))
  have f425 := (((Ba408.other W413 (Ne.symm ns408_a1.2)).ext E415).other W421 (Ne.symm ns408_a1.2))
  obtain ⟨fs, hr, hrun, hended, hend⟩ := Jvm.Stand.leaveW (v := none) X421 hS415 (by rw [e421]; exact hk422) (fun _ => rfl)
  have hFin := R422.trans (CHv.at X421 hZ415 hEL R422.1)
  refine ⟨_, _, pre0 _ ?_, hrun, hended, _, _, rfl, ?_, ?_, own_mono hend (own_ble rfl) (own_ble rfl)⟩
  · show Steps _ _ _ (s₁.setTop (mkF m 0 #[.val (.ref a1), .val (.ref b), .val (.int 0), .val (.int 0), .val .null, .unset] [])) _
    refine XS.aloadN X0.here hx rfl (hB d12_0) rfl rfl ?_
    refine st407 _ ?_
    show Steps _ _ _ (T407.setTop (mkF m 4 #[.val (.ref a1), .val (.ref b), .val (.int 0), .val (.int 0), .val .null, .unset] [])) _
    refine XS.iloadN X407.here hx rfl (hB d12_4) rfl ?_
    refine XS.ifNo X407.here hx rfl (hB d12_5) rfl ((if0 _ _).trans (teq (by decide : (0 : Int32) = (0 : Int32))).2) ?_
    refine XS.aloadN X407.here hx rfl (hB d12_8) rfl rfl ?_
    refine st408 _ ?_
    show Steps _ _ _ (T408.setTop (mkF m 11 #[.val (.ref a1), .val (.ref b), .val (.int 0), .val (.int 0), .val .null, .unset] [.ref a408, .ref a1])) _
    refine st410 _ ?_
    show Steps _ _ _ (T410.setTop (mkF m 14 #[.val (.ref a1), .val (.ref b), .val (.int 0), .val (.int 0), .val .null, .unset] [.ref b408, .ref a1])) _
    refine st413 _ ?_
    show Steps _ _ _ (T413.setTop (mkF m 17 #[.val (.ref a1), .val (.ref b), .val (.int 0), .val (.int 0), .val .null, .unset] [])) _
    refine XS.aloadN X413.here hx rfl (hB d12_17) rfl rfl ?_
    refine st415 _ ?_
    show Steps _ _ _ (T415.setTop (mkF m 20 #[.val (.ref a1), .val (.ref b), .val (.int 0), .val (.int 0), .val .null, .unset] [.ref a415, .ref a1])) _
    refine st418 _ ?_
    show Steps _ _ _ (T418.setTop (mkF m 23 #[.val (.ref a1), .val (.ref b), .val (.int 0), .val (.int 0), .val .null, .unset] [.int 0, .ref a1])) _
    refine st421 _ ?_
    show Steps _ _ _ (T421.setTop (mkF m 26 #[.val (.ref a1), .val (.ref b), .val (.int 0), .val (.int 0), .val .null, .unset] [])) _
    exact X421.returnOut hx Bd.returns (hB d12_26) hr
  · show Qsvz Z G1 fm a1 b h0 n0 _ T421.heap _
    rw [e421]
    exact ⟨b408, kb408, rfl, N421, K0_422, f423, Fw421, f424, f425⟩
  · show CHr Z own_EL s.vm s.heap T421.vm T421.heap
    rw [hh, e421]
    exact hFin
def Qsz (Z : State) (G1 : Int32) (fm : Value) (a1 : Addr) (b : Addr) (kc : ClassId) (h0 : Heap) (n0 : Nat) (v : Option Value) (h : Heap) (L : List Loc) : Prop := ∃ t : Addr, ∃ kb : ClassId, v = none ∧ Fr n0 L ∧ Keep h0 h [a1] ∧ Exa Z h a1 "java/lang/String" ∧ Fld Z h a1 "java/lang/String" "coder" "B" (.int 0) ∧ Fld Z h a1 "java/lang/String" "value" "[B" (.ref t) ∧ Arv Z h t kb .byte (0 : Int32) ([]) (.int 0)
theorem rmsz (l : Launch) (Z : State) (a0 : Array Value) (G1 : Int32) (fm : Value) (hG : Glob Z a0 G1 fm) (ws : List Jvm.Cond) (a1 : Addr) (b : Addr) (kc : ClassId) (h0 : Heap) (n0 : Nat) (Z0 : n0 ≤ h0.size) (X00 : Old Z n0 h0) (E_a1 : Exa Z h0 a1 "java/lang/String") (g_a1 : n0 ≤ a1) (F_value_a1 : Fld Z h0 a1 "java/lang/String" "value" "[B" .null) (F_coder_a1 : Fld Z h0 a1 "java/lang/String" "coder" "B" (.int 0)) (V_b : Arv Z h0 b kc .char (0 : Int32) [] (.int 0)) :
    MetFree l y13 (head1 (Jvm.Cond.code y13 jdk_42_method_3_code 2 none :: ws) (Room.mk 2 4 8 29)) (fun a U => a = #[.ref a1, .ref b] ∧ Z.Warmed39 U.vm ∧ U.heap = h0 ∧ CHv Z own_EL U.vm h0) (fun _ _ _ _ _ => True) (fun _ U o U' => ∃ v L, o = .returned v ∧ Qsz Z G1 fm a1 b kc h0 n0 v U'.heap L ∧ CHr Z own_EL U.vm U.heap U'.vm U'.heap ∧ ReturnedEndW U o U' L 4 8) := by
  obtain ⟨hw, O_cs, P_cs, O_as, O_hi, O_lo, O_fm, R_fm⟩ := id hG
  have W := @own_W _ _ hw
  refine MetFree.of_bodySF (plainFor_of_name pn_java_lang_String) hisR ?_
  intro p e s m args below meth c s₁ Bd hml0 hP hK
  obtain ⟨rfl, hZ, hh, hCH⟩ := hP
  have hx := Bd.exec
  have hby := Bd.bytes
  have hB := @hb _ _ hby
  have hml : c.maxLocals = 2 := hml0
  have hown : s.vm.findClass "java/lang/String" = some m.cls := findClass_of_methodNamed Bd.named
  have hnm := (name_of_methodNamed Bd.named Bd.method).1
  have X0 : Stand p l e (Room.mk 2 4 8 29) (s.setVm s.vm) m #[.ref a1, .ref b] below meth c s₁ [] 0 0 := Stand.of_body Bd
  have e0 : s₁.heap = h0 := by rw [← hh, Bd.state]; rfl
  have hS0 : s.Since s.vm h0.size := (State.WarmedH.refl s).since _
  have hk0 : h0.size ≤ h0.size := Nat.le_refl _
  have R0 : CHr Z own_EL s.vm h0 s.vm h0 := CHr.refl hCH
  have hEL := own_ew hw
  have N0 := Fr.nil n0
  have pre0 : ∀ t, Steps p.tables e below (s₁.setTop (mkF m 0 #[.val (.ref a1), .val (.ref b)] [])) t → Steps p.tables e below (s₁.setTop (entryFrame m #[.ref a1, .ref b] 2)) t := fun t kk_ => castTop (ef_jdk_42_method_3_code_RR m a1 b) kk_
  obtain ⟨clq426, Arq426, qaq426, Sq426, Nq426, Hq426, Gq426⟩ := id V_b
  -- pc 6: java/lang/String.<init>
  obtain ⟨_, _, ⟨T427, L427, k427, n427⟩, -, X427, hS427, hG427, ⟨Lc427, hQ427, l427, y427, z427, hC427⟩, st427⟩ := X0.specialBackS hx (y := y12) rfl hown (mvT hZ (W 15 rfl)) (mvT hZ (W 16 rfl)) (mvT hZ (W 18 rfl)) (by decide) (backOfSH (s := s) (W := 0) (rmsvz l Z a0 G1 fm hG [] a1 b h0 n0 Z0 X00 E_a1 g_a1 F_value_a1 F_coder_a1) hZ (W 18 rfl) (W 10 rfl) (by decide) (by decide) hEL R0.1) (g := (mkF m 6 #[.val (.ref a1), .val (.ref b)] [.null, .int 0, .int 0, .ref b, .ref a1])) rfl (by rw [hml]; rfl) (Steps.refl _) (a := a1) (argsL := [.ref b, .int 0, .int 0, .null]) (rest := []) (lenOf pd___CIILjava_lang_Void__V rfl) rfl (by show 2 * 0 + _ ≤ _; exact Nat.le_of_eq rfl) (hB d13_6) (fun _ _ => ⟨rfl, e0, (by decide : 0 + 4 ≤ _), (by decide : 0 + 8 ≤ _)⟩)
  dsimp only [Pt.U, Pt.locs, Pt.cells, Pt.slots] at X427 l427 y427 z427 st427 hQ427 hS427 hG427 hC427
  subst l427 y427 z427
  have hZ427 : Z.Warmed39 T427.vm := State.Warmed39.trans (t := s.setVm s.vm) hZ hS427.1
  have hw427 : T427.vm.findClass "java/lang/String" = some m.cls := by rw [hS427.1.alike.findClass]; exact hown
  have hSn427 : s.Since T427.vm T427.heap.size := hS0.trans hS427 (Nat.le_trans hk0 (by have q := hG427; rw [e0] at q; exact q))
  have X427 : Stand p l e _ (s.setVm T427.vm) m _ below meth c T427 _ _ _ := X427
  obtain ⟨t_427, kb_427, rfl, N427q, K427, f427_0, f427_1, f427_2, f427_3⟩ := hQ427
  have N427 := Fr.app N0 N427q
  have Z428 : n0 ≤ T427.heap.size := Nat.le_trans Z0 K427.1
  have K0_428 : Keep h0 T427.heap [a1] := (Keep.refl h0 [a1]).trans K427 (allS (Or.inl (List.mem_of_getElem? (i := 0) rfl)) all0)
  have O428 : Old Z n0 T427.heap := X00.keep K427 (allS g_a1 all0)
  have hkw427 : T427.heap.size ≤ T427.heap.size := Nat.le_refl _
  have Rb427 : CHr Z own_EL s.vm h0 T427.vm T427.heap := R0.trans hC427
  obtain ⟨fs, hr, hrun, hended, hend⟩ := Jvm.Stand.leaveW (v := none) X427 hSn427 hkw427 (fun _ => rfl)
  have hFin := Rb427.trans (CHv.at X427 hZ427 hEL Rb427.1)
  refine ⟨_, _, pre0 _ ?_, hrun, hended, _, _, rfl, ?_, ?_, own_mono hend (own_ble rfl) (own_ble rfl)⟩
  · show Steps _ _ _ (s₁.setTop (mkF m 0 #[.val (.ref a1), .val (.ref b)] [])) _
    refine XS.aloadN X0.here hx rfl (hB d13_0) rfl rfl ?_
    refine XS.aloadN X0.here hx rfl (hB d13_1) rfl rfl ?_
    refine XS.iconst X0.here hx rfl (hB d13_2) ?_
    refine XS.aloadN X0.here hx rfl (hB d13_3) rfl rfl ?_
    refine X0.arraylength hx (own_cell e0 Arq426.1) (State.isArrayOf_alike hZ.alike Arq426.2.1) (g := (mkF m 4 #[.val (.ref a1), .val (.ref b)] [.ref b, .int 0, .ref b, .ref a1])) rfl rfl (hB d13_4) _ ?_
    rw [len_of Sq426 Nq426]
    refine XS.aconstNull X0.here hx rfl (hB d13_5) ?_
    refine st427.trans ?_
    show Steps _ _ _ (T427.setTop (mkF m 9 #[.val (.ref a1), .val (.ref b)] [])) _
    exact X427.returnOut hx Bd.returns (hB d13_9) hr
  · show Qsz Z G1 fm a1 b kc h0 n0 _ T427.heap _
    exact ⟨t_427, kb_427, rfl, N427, K0_428, f427_0, f427_1, f427_2, f427_3⟩
  · show CHr Z own_EL s.vm s.heap T427.vm T427.heap
    rw [hh]
    exact hFin
theorem d14_0 : decode jdk_29_method_65_code 0 = .ok (.iload_n 0, 1) := by decide +kernel
theorem d14_1 : decode jdk_29_method_65_code 1 = .ok (.iload_n 1, 1) := by decide +kernel
theorem d14_2 : decode jdk_29_method_65_code 2 = .ok (.if_icmp .lt 7, 3) := by decide +kernel
theorem d14_5 : decode jdk_29_method_65_code 5 = .ok (.iload_n 0, 1) := by decide +kernel
theorem d14_6 : decode jdk_29_method_65_code 6 = .ok (.goto 4, 3) := by decide +kernel
theorem d14_10 : decode jdk_29_method_65_code 10 = .ok (.ireturn, 1) := by decide +kernel
def Qmx (Z : State) (G1 : Int32) (fm : Value) (h0 : Heap) (n0 : Nat) (v : Option Value) (h : Heap) (L : List Loc) : Prop := v = some (.int 0) ∧ Fr n0 L ∧ h = h0
theorem ef_jdk_29_method_65_code_II (m : MethodId) (x0 : Int32) (x1 : Int32) : entryFrame m #[.int x0, .int x1] 2 = mkF m 0 #[.val (.int x0), .val (.int x1)] [] := by first | (simp [entryFrame, mkF, argsToLocals, Value.category]; done) | rfl
abbrev y14 : MethodName := ⟨"java/lang/Math", "max", "(II)I"⟩
theorem pf_y14 : plainFor y14 = true := by decide +kernel
theorem rmmx (l : Launch) (Z : State) (a0 : Array Value) (G1 : Int32) (fm : Value) (hG : Glob Z a0 G1 fm) (ws : List Jvm.Cond) (h0 : Heap) (n0 : Nat) (Z0 : n0 ≤ h0.size) (X00 : Old Z n0 h0) :
    Met l Z h0 y14 jdk_29_method_65_code 2 (some .int) ws (Room.mk 0 0 0 0) #[.int 0, .int 0] (Qmx Z G1 fm h0 n0) := by
  obtain ⟨hw, O_cs, P_cs, O_as, O_hi, O_lo, O_fm, R_fm⟩ := id hG
  have W := @own_W _ _ hw
  refine own_go "java/lang/Math" rfl pf_y14 ?_
  intro p e s m below meth c s₁ Bd hx hby hml hown hnm X0 e0 hZ
  have hB := @hb _ _ hby
  have N0 := Fr.nil n0
  obtain ⟨fs, hr, hrun, hended, hW, hsame⟩ := X0.leave (v := some (.int 0)) (fun h => by rw [Bd.returns] at h; cases h)
  refine ⟨_, _, castTop (ef_jdk_29_method_65_code_II m (0 : Int32) (0 : Int32)) ?_, hrun, hended, _, _, rfl, ?_, ⟨_, rfl⟩, hW, hsame.mono (own_ble rfl) (own_ble rfl)⟩
  · show Steps _ _ _ (s₁.setTop (mkF m 0 #[.val (.int 0), .val (.int 0)] [])) _
    refine XS.iloadN X0.here hx rfl (hB d14_0) rfl ?_
    refine XS.iloadN X0.here hx rfl (hB d14_1) rfl ?_
    refine XS.icmpNo X0.here hx rfl (hB d14_2) rfl (flt (by decide : ¬ ((0 : Int32) < (0 : Int32)))).1 ?_
    refine XS.iloadN X0.here hx rfl (hB d14_5) rfl ?_
    refine XS.goto X0.here hx rfl (pc0 := 6) (pc' := 10) rfl (hB d14_6) (by decide) (by decide) ?_
    exact retOut X0 hx Bd.returns rfl (Or.inl ⟨rfl, Or.inl rfl, _, rfl⟩) (hB d14_10) hr
  · show Qmx Z G1 fm h0 n0 _ s₁.heap _
    rw [e0]
    exact ⟨rfl, N0, rfl⟩
theorem d15_0 : decode jdk_29_method_69_code 0 = .ok (.iload_n 0, 1) := by decide +kernel
theorem d15_1 : decode jdk_29_method_69_code 1 = .ok (.iload_n 1, 1) := by decide +kernel
theorem d15_2 : decode jdk_29_method_69_code 2 = .ok (.if_icmp .gt 7, 3) := by decide +kernel
theorem d15_5 : decode jdk_29_method_69_code 5 = .ok (.iload_n 0, 1) := by decide +kernel
theorem d15_6 : decode jdk_29_method_69_code 6 = .ok (.goto 4, 3) := by decide +kernel
theorem d15_10 : decode jdk_29_method_69_code 10 = .ok (.ireturn, 1) := by decide +kernel
def Qmn (Z : State) (G1 : Int32) (fm : Value) (i : Int32) (q : Int32) (h0 : Heap) (n0 : Nat) (v : Option Value) (h : Heap) (L : List Loc) : Prop := v = some (.int i) ∧ Fr n0 L ∧ h = h0
theorem ef_jdk_29_method_69_code_II (m : MethodId) (x0 : Int32) (x1 : Int32) : entryFrame m #[.int x0, .int x1] 2 = mkF m 0 #[.val (.int x0), .val (.int x1)] [] := by first | (simp [entryFrame, mkF, argsToLocals, Value.category]; done) | rfl
abbrev y15 : MethodName := ⟨"java/lang/Math", "min", "(II)I"⟩
theorem pf_y15 : plainFor y15 = true := by decide +kernel
theorem rmmn (l : Launch) (Z : State) (a0 : Array Value) (G1 : Int32) (fm : Value) (hG : Glob Z a0 G1 fm) (ws : List Jvm.Cond) (i : Int32) (q : Int32) (h0 : Heap) (n0 : Nat) (Z0 : n0 ≤ h0.size) (X00 : Old Z n0 h0) (h1 : ¬ (q < i)) :
    Met l Z h0 y15 jdk_29_method_69_code 2 (some .int) ws (Room.mk 0 0 0 0) #[.int i, .int q] (Qmn Z G1 fm i q h0 n0) := by
  obtain ⟨hw, O_cs, P_cs, O_as, O_hi, O_lo, O_fm, R_fm⟩ := id hG
  have W := @own_W _ _ hw
  refine own_go "java/lang/Math" rfl pf_y15 ?_
  intro p e s m below meth c s₁ Bd hx hby hml hown hnm X0 e0 hZ
  have hB := @hb _ _ hby
  have N0 := Fr.nil n0
  obtain ⟨fs, hr, hrun, hended, hW, hsame⟩ := X0.leave (v := some (.int i)) (fun h => by rw [Bd.returns] at h; cases h)
  refine ⟨_, _, castTop (ef_jdk_29_method_69_code_II m i q) ?_, hrun, hended, _, _, rfl, ?_, ⟨_, rfl⟩, hW, hsame.mono (own_ble rfl) (own_ble rfl)⟩
  · show Steps _ _ _ (s₁.setTop (mkF m 0 #[.val (.int i), .val (.int q)] [])) _
    refine XS.iloadN X0.here hx rfl (hB d15_0) rfl ?_
    refine XS.iloadN X0.here hx rfl (hB d15_1) rfl ?_
    refine XS.icmpNo X0.here hx rfl (hB d15_2) rfl (flt (h1 : ¬ (q < i))).2.2.1 ?_
    refine XS.iloadN X0.here hx rfl (hB d15_5) rfl ?_
    refine XS.goto X0.here hx rfl (pc0 := 6) (pc' := 10) rfl (hB d15_6) (by decide) (by decide) ?_
    exact retOut X0 hx Bd.returns rfl (Or.inl ⟨rfl, Or.inl rfl, _, rfl⟩) (hB d15_10) hr
  · show Qmn Z G1 fm i q h0 n0 _ s₁.heap _
    rw [e0]
    exact ⟨rfl, N0, rfl⟩
theorem d16_0 : decode jdk_43_method_4_code 0 = .ok (.iload_n 0, 1) := by decide +kernel
theorem d16_1 : decode jdk_43_method_4_code 1 = .ok (.ifCond .lt 14, 3) := by decide +kernel
theorem d16_4 : decode jdk_43_method_4_code 4 = .ok (.iload_n 0, 1) := by decide +kernel
theorem d16_5 : decode jdk_43_method_4_code 5 = .ok (.sipush 255, 3) := by decide +kernel
theorem d16_8 : decode jdk_43_method_4_code 8 = .ok (.if_icmp .gt 7, 3) := by decide +kernel
theorem d16_11 : decode jdk_43_method_4_code 11 = .ok (.iconst 1, 1) := by decide +kernel
theorem d16_12 : decode jdk_43_method_4_code 12 = .ok (.goto 4, 3) := by decide +kernel
theorem d16_16 : decode jdk_43_method_4_code 16 = .ok (.ireturn, 1) := by decide +kernel
def Qcen (Z : State) (G1 : Int32) (fm : Value) (h0 : Heap) (n0 : Nat) (v : Option Value) (h : Heap) (L : List Loc) : Prop := v = some (.int 1) ∧ Fr n0 L ∧ h = h0
theorem ef_jdk_43_method_4_code_I (m : MethodId) (x0 : Int32) : entryFrame m #[.int x0] 1 = mkF m 0 #[.val (.int x0)] [] := by first | (simp [entryFrame, mkF, argsToLocals, Value.category]; done) | rfl
abbrev y16 : MethodName := ⟨"java/lang/StringLatin1", "canEncode", "(I)Z"⟩
theorem pn_java_lang_StringLatin1 : plainName "java/lang/StringLatin1" = true := by first | (simp [plainName, overriddenIn]; done) | decide +kernel
theorem rmcen (l : Launch) (Z : State) (a0 : Array Value) (G1 : Int32) (fm : Value) (hG : Glob Z a0 G1 fm) (ws : List Jvm.Cond) (h0 : Heap) (n0 : Nat) (Z0 : n0 ≤ h0.size) (X00 : Old Z n0 h0) :
    Met l Z h0 y16 jdk_43_method_4_code 1 (some .boolean) ws (Room.mk 0 0 0 0) #[.int 45] (Qcen Z G1 fm h0 n0) := by
  obtain ⟨hw, O_cs, P_cs, O_as, O_hi, O_lo, O_fm, R_fm⟩ := id hG
  have W := @own_W _ _ hw
  refine own_go "java/lang/StringLatin1" rfl (plainFor_of_name pn_java_lang_StringLatin1) ?_
  intro p e s m below meth c s₁ Bd hx hby hml hown hnm X0 e0 hZ
  have hB := @hb _ _ hby
  have N0 := Fr.nil n0
  obtain ⟨fs, hr, hrun, hended, hW, hsame⟩ := X0.leave (v := some (.int 1)) (fun h => by rw [Bd.returns] at h; cases h)
  refine ⟨_, _, castTop (ef_jdk_43_method_4_code_I m (45 : Int32)) ?_, hrun, hended, _, _, rfl, ?_, ⟨_, rfl⟩, hW, hsame.mono (own_ble rfl) (own_ble rfl)⟩
  · show Steps _ _ _ (s₁.setTop (mkF m 0 #[.val (.int 45)] [])) _
    refine XS.iloadN X0.here hx rfl (hB d16_0) rfl ?_
    refine XS.ifNo X0.here hx rfl (hB d16_1) rfl ((if0 _ _).trans (flt (by decide : ¬ ((45 : Int32) < (0 : Int32)))).1) ?_
    refine XS.iloadN X0.here hx rfl (hB d16_4) rfl ?_
    refine XS.sipush X0.here hx rfl (hB d16_5) ?_
    refine XS.icmpNo X0.here hx rfl (hB d16_8) rfl (flt (by decide : ¬ ((255 : Int32) < (45 : Int32)))).2.2.1 ?_
    refine XS.iconst X0.here hx rfl (hB d16_11) ?_
    refine XS.goto X0.here hx rfl (pc0 := 12) (pc' := 16) rfl (hB d16_12) (by decide) (by decide) ?_
    exact retN X0 hx (t := .boolean) Bd.returns (by simp) (hB d16_16) hr
  · show Qcen Z G1 fm h0 n0 _ s₁.heap _
    rw [e0]
    exact ⟨rfl, N0, rfl⟩
theorem d17_0 : decode jdk_41_method_12_code 0 = .ok (.iload_n 0, 1) := by decide +kernel
theorem d17_1 : decode jdk_41_method_12_code 1 = .ok (.ifCond .lt 13, 3) := by decide +kernel
theorem d17_4 : decode jdk_41_method_12_code 4 = .ok (.iload_n 0, 1) := by decide +kernel
theorem d17_5 : decode jdk_41_method_12_code 5 = .ok (.iload_n 1, 1) := by decide +kernel
theorem d17_6 : decode jdk_41_method_12_code 6 = .ok (.if_icmp .gt 8, 3) := by decide +kernel
theorem d17_9 : decode jdk_41_method_12_code 9 = .ok (.iload_n 1, 1) := by decide +kernel
theorem d17_10 : decode jdk_41_method_12_code 10 = .ok (.iload_n 2, 1) := by decide +kernel
theorem d17_11 : decode jdk_41_method_12_code 11 = .ok (.if_icmp .le 11, 3) := by decide +kernel
theorem d17_22 : decode jdk_41_method_12_code 22 = .ok (.iload_n 0, 1) := by decide +kernel
theorem d17_23 : decode jdk_41_method_12_code 23 = .ok (.ireturn, 1) := by decide +kernel
def Qpcf (Z : State) (G1 : Int32) (fm : Value) (i : Int32) (q : Int32) (u : Value) (h0 : Heap) (n0 : Nat) (v : Option Value) (h : Heap) (L : List Loc) : Prop := v = some (.int 0) ∧ Fr n0 L ∧ h = h0
theorem ef_jdk_41_method_12_code_IIIV (m : MethodId) (x0 : Int32) (x1 : Int32) (x2 : Int32) (x3 : Value) (r3 : x3.isRef = true) : entryFrame m #[.int x0, .int x1, .int x2, x3] 4 = mkF m 0 #[.val (.int x0), .val (.int x1), .val (.int x2), .val x3] [] := by
  simp [entryFrame, mkF, argsToLocals, own_cr, own_ci, own_cj, own_cn, own_cat r3]
abbrev y17 : MethodName := ⟨"jdk/internal/util/Preconditions", "checkFromToIndex", "(IIILjava/util/function/BiFunction;)I"⟩
theorem pn_jdk_internal_util_Preconditions : plainName "jdk/internal/util/Preconditions" = true := by first | (simp [plainName, overriddenIn]; done) | decide +kernel
theorem rmpcf (l : Launch) (Z : State) (a0 : Array Value) (G1 : Int32) (fm : Value) (hG : Glob Z a0 G1 fm) (ws : List Jvm.Cond) (i : Int32) (q : Int32) (u : Value) (h0 : Heap) (n0 : Nat) (Z0 : n0 ≤ h0.size) (X00 : Old Z n0 h0) (h1 : ¬ (i < (0 : Int32))) (h2 : ¬ (q < i)) (ru : u.isRef = true) :
    Met l Z h0 y17 jdk_41_method_12_code 4 (some .int) ws (Room.mk 0 0 0 0) #[.int 0, .int i, .int q, u] (Qpcf Z G1 fm i q u h0 n0) := by
  obtain ⟨hw, O_cs, P_cs, O_as, O_hi, O_lo, O_fm, R_fm⟩ := id hG
  have W := @own_W _ _ hw
  refine own_go "jdk/internal/util/Preconditions" rfl (plainFor_of_name pn_jdk_internal_util_Preconditions) ?_
  intro p e s m below meth c s₁ Bd hx hby hml hown hnm X0 e0 hZ
  have hB := @hb _ _ hby
  have N0 := Fr.nil n0
  obtain ⟨fs, hr, hrun, hended, hW, hsame⟩ := X0.leave (v := some (.int 0)) (fun h => by rw [Bd.returns] at h; cases h)
  refine ⟨_, _, castTop (ef_jdk_41_method_12_code_IIIV m (0 : Int32) i q u ru) ?_, hrun, hended, _, _, rfl, ?_, ⟨_, rfl⟩, hW, hsame.mono (own_ble rfl) (own_ble rfl)⟩
  · show Steps _ _ _ (s₁.setTop (mkF m 0 #[.val (.int 0), .val (.int i), .val (.int q), .val u] [])) _
    refine XS.iloadN X0.here hx rfl (hB d17_0) rfl ?_
    refine XS.ifNo X0.here hx rfl (hB d17_1) rfl ((if0 _ _).trans (flt (by decide : ¬ ((0 : Int32) < (0 : Int32)))).1) ?_
    refine XS.iloadN X0.here hx rfl (hB d17_4) rfl ?_
    refine XS.iloadN X0.here hx rfl (hB d17_5) rfl ?_
    refine XS.icmpNo X0.here hx rfl (hB d17_6) rfl (flt (h1 : ¬ (i < (0 : Int32)))).2.2.1 ?_
    refine XS.iloadN X0.here hx rfl (hB d17_9) rfl ?_
    refine XS.iloadN X0.here hx rfl (hB d17_10) rfl ?_
    refine XS.icmpYes X0.here hx rfl (pc0 := 11) (pc' := 22) rfl (hB d17_11) rfl (flt (h2 : ¬ (q < i))).2.2.2 (by decide) (by decide) ?_
    refine XS.iloadN X0.here hx rfl (hB d17_22) rfl ?_
    exact retOut X0 hx Bd.returns rfl (Or.inl ⟨rfl, Or.inl rfl, _, rfl⟩) (hB d17_23) hr
  · show Qpcf Z G1 fm i q u h0 n0 _ s₁.heap _
    rw [e0]
    exact ⟨rfl, N0, rfl⟩
theorem d18_0 : decode jdk_42_method_158_code 0 = .ok (.iload_n 0, 1) := by decide +kernel
theorem d18_1 : decode jdk_42_method_158_code 1 = .ok (.iload_n 1, 1) := by decide +kernel
theorem d18_2 : decode jdk_42_method_158_code 2 = .ok (.iload_n 2, 1) := by decide +kernel
theorem d18_3 : decode jdk_42_method_158_code 3 = .ok (.getstatic 1053, 3) := by decide +kernel
theorem d18_6 : decode jdk_42_method_158_code 6 = .ok (.invokestatic 1062, 3) := by decide +kernel
theorem pd__IIILjava_util_function_BiFunction__I : parseMethodDescriptor "(IIILjava/util/function/BiFunction;)I" = some ⟨[.int, .int, .int, (.object "java/util/function/BiFunction")], some .int⟩ := by decide +kernel
theorem d18_9 : decode jdk_42_method_158_code 9 = .ok (.pop, 1) := by decide +kernel
theorem d18_10 : decode jdk_42_method_158_code 10 = .ok (.return_, 1) := by decide +kernel
def Qscb (Z : State) (G1 : Int32) (fm : Value) (i : Int32) (q : Int32) (h0 : Heap) (n0 : Nat) (v : Option Value) (h : Heap) (L : List Loc) : Prop := v = none ∧ Fr n0 L ∧ h = h0
theorem ef_jdk_42_method_158_code_III (m : MethodId) (x0 : Int32) (x1 : Int32) (x2 : Int32) : entryFrame m #[.int x0, .int x1, .int x2] 3 = mkF m 0 #[.val (.int x0), .val (.int x1), .val (.int x2)] [] := by first | (simp [entryFrame, mkF, argsToLocals, Value.category]; done) | rfl
abbrev y18 : MethodName := ⟨"java/lang/String", "checkBoundsBeginEnd", "(III)V"⟩
theorem rmscb (l : Launch) (Z : State) (a0 : Array Value) (G1 : Int32) (fm : Value) (hG : Glob Z a0 G1 fm) (ws : List Jvm.Cond) (i : Int32) (q : Int32) (h0 : Heap) (n0 : Nat) (Z0 : n0 ≤ h0.size) (X00 : Old Z n0 h0) (h1 : ¬ (i < (0 : Int32))) (h2 : ¬ (q < i)) :
    Met l Z h0 y18 jdk_42_method_158_code 3 none ws (Room.mk 1 0 0 15) #[.int 0, .int i, .int q] (Qscb Z G1 fm i q h0 n0) := by
  obtain ⟨hw, O_cs, P_cs, O_as, O_hi, O_lo, O_fm, R_fm⟩ := id hG
  have W := @own_W _ _ hw
  refine own_go "java/lang/String" rfl (plainFor_of_name pn_java_lang_String) ?_
  intro p e s m below meth c s₁ Bd hx hby hml hown hnm X0 e0 hZ
  have hB := @hb _ _ hby
  have N0 := Fr.nil n0
  obtain ⟨T429, X429, e429, st429⟩ := getS2 X0 hx hZ hown (host := "") (Or.inl (W 124 rfl)) Via.refl e0 (O_fm.ext X00.2) (g := (mkF m 3 #[.val (.int 0), .val (.int i), .val (.int q)] [.int q, .int i, .int 0])) rfl (hB d18_3)
  -- pc 6: jdk/internal/util/Preconditions.checkFromToIndex
  obtain ⟨_, _, ⟨T430, L430, k430, n430⟩, -, X430, ⟨Lc430, hQ430, l430, y430, z430⟩, st430⟩ := Jvm.LawKit.callS X429 hx (y := y17) hown (mvT hZ (W 126 rfl)) (mvT hZ (W 127 rfl)) (mvT hZ (W 125 rfl)) (mvT hZ (W 128 rfl)) (by decide) (backOf (W := 0) (rmpcf l Z a0 G1 fm hG [] i q fm h0 n0 Z0 X00 (by first | assumption | decide | rfl) (by first | assumption | decide | rfl) R_fm) hZ (W 128 rfl) (W 125 rfl) (by decide) (by decide)) (g := (mkF m 6 #[.val (.int 0), .val (.int i), .val (.int q)] [fm, .int q, .int i, .int 0])) rfl (by rw [hml]; rfl) (argsL := [.int 0, .int i, .int q, fm]) (rest := []) (lenOf pd__IIILjava_util_function_BiFunction__I rfl) rfl (by show 2 * 0 + _ ≤ _; exact Nat.le_of_eq rfl) (hB d18_6) (fun _ _ => ⟨rfl, e429, (by decide : 0 + 0 ≤ _), (by decide : 0 + 0 ≤ _)⟩)
  dsimp only [Pt.U, Pt.locs, Pt.cells, Pt.slots] at X430 l430 y430 z430 st430 hQ430
  subst l430 y430 z430
  obtain ⟨rfl, N430q, eq430⟩ := hQ430
  have N430 := Fr.app N0 N430q
  obtain ⟨fs, hr, hrun, hended, hW, hsame⟩ := X430.leave (v := none) (fun _ => rfl)
  refine ⟨_, _, castTop (ef_jdk_42_method_158_code_III m (0 : Int32) i q) ?_, hrun, hended, _, _, rfl, ?_, ⟨_, rfl⟩, hW, hsame.mono (own_ble rfl) (own_ble rfl)⟩
  · show Steps _ _ _ (s₁.setTop (mkF m 0 #[.val (.int 0), .val (.int i), .val (.int q)] [])) _
    refine XS.iloadN X0.here hx rfl (hB d18_0) rfl ?_
    refine XS.iloadN X0.here hx rfl (hB d18_1) rfl ?_
    refine XS.iloadN X0.here hx rfl (hB d18_2) rfl ?_
    refine st429 _ ?_
    show Steps _ _ _ (T429.setTop (mkF m 6 #[.val (.int 0), .val (.int i), .val (.int q)] [fm, .int q, .int i, .int 0])) _
    refine st430 _ ?_
    show Steps _ _ _ (T430.setTop (mkF m 9 #[.val (.int 0), .val (.int i), .val (.int q)] [.int 0])) _
    refine XS.pop X430.here hx rfl (hB d18_9) rfl rfl ?_
    exact X430.returnOut hx Bd.returns (hB d18_10) hr
  · show Qscb Z G1 fm i q h0 n0 _ T430.heap _
    rw [eq430]
    exact ⟨rfl, N430, rfl⟩
theorem d19_0 : decode jdk_52_method_93_code 0 = .ok (.iload_n 0, 1) := by decide +kernel
theorem d19_1 : decode jdk_52_method_93_code 1 = .ok (.iload_n 1, 1) := by decide +kernel
theorem d19_2 : decode jdk_52_method_93_code 2 = .ok (.aload_n 2, 1) := by decide +kernel
theorem d19_3 : decode jdk_52_method_93_code 3 = .ok (.invokestatic 48, 3) := by decide +kernel
theorem pd___B_I : parseMethodDescriptor "([B)I" = some ⟨[(.array .byte)], some .int⟩ := by decide +kernel
theorem d19_6 : decode jdk_52_method_93_code 6 = .ok (.invokestatic 241, 3) := by decide +kernel
theorem pd__III_V : parseMethodDescriptor "(III)V" = some ⟨[.int, .int, .int], none⟩ := by decide +kernel
theorem d19_9 : decode jdk_52_method_93_code 9 = .ok (.return_, 1) := by decide +kernel
def Qucb (Z : State) (G1 : Int32) (fm : Value) (i : Int32) (b : Addr) (kb : ClassId) (z : Int32) (vs : List Value) (h0 : Heap) (n0 : Nat) (v : Option Value) (h : Heap) (L : List Loc) : Prop := v = none ∧ Fr n0 L ∧ h = h0
theorem ef_jdk_52_method_93_code_IIR (m : MethodId) (x0 : Int32) (x1 : Int32) (x2 : Addr) : entryFrame m #[.int x0, .int x1, .ref x2] 3 = mkF m 0 #[.val (.int x0), .val (.int x1), .val (.ref x2)] [] := by first | (simp [entryFrame, mkF, argsToLocals, Value.category]; done) | rfl
abbrev y19 : MethodName := ⟨"java/lang/StringUTF16", "checkBoundsBeginEnd", "(II[B)V"⟩
theorem rmucb (l : Launch) (Z : State) (a0 : Array Value) (G1 : Int32) (fm : Value) (hG : Glob Z a0 G1 fm) (ws : List Jvm.Cond) (i : Int32) (b : Addr) (kb : ClassId) (z : Int32) (vs : List Value) (h0 : Heap) (n0 : Nat) (Z0 : n0 ≤ h0.size) (X00 : Old Z n0 h0) (V_b : Arv Z h0 b kb .byte z vs (.int 0)) (h1 : ¬ (i < (0 : Int32))) (h2 : ¬ ((z >>> ((1 : Int32) &&& 31)) < i)) :
    Met l Z h0 y19 jdk_52_method_93_code 3 none ws (Room.mk 2 0 0 29) #[.int 0, .int i, .ref b] (Qucb Z G1 fm i b kb z vs h0 n0) := by
  obtain ⟨hw, O_cs, P_cs, O_as, O_hi, O_lo, O_fm, R_fm⟩ := id hG
  have W := @own_W _ _ hw
  refine own_go "java/lang/StringUTF16" rfl (plainFor_of_name pn_java_lang_StringUTF16) ?_
  intro p e s m below meth c s₁ Bd hx hby hml hown hnm X0 e0 hZ
  have hB := @hb _ _ hby
  have N0 := Fr.nil n0
  -- pc 3: java/lang/StringUTF16.length
  obtain ⟨_, _, ⟨T431, L431, k431, n431⟩, -, X431, ⟨Lc431, hQ431, l431, y431, z431⟩, st431⟩ := Jvm.LawKit.callS X0 hx (y := y2) hown (mvT hZ (W 118 rfl)) (mvT hZ (W 119 rfl)) (mvT hZ (W 76 rfl)) (mvT hZ (W 120 rfl)) (by decide) (backOf (W := 2) (rmulen l Z a0 G1 fm hG [] b kb z vs h0 n0 Z0 X00 V_b) hZ (W 120 rfl) (W 76 rfl) (by decide) (by decide)) (g := (mkF m 3 #[.val (.int 0), .val (.int i), .val (.ref b)] [.ref b, .int i, .int 0])) rfl (by rw [hml]; rfl) (argsL := [.ref b]) (rest := [.int i, .int 0]) (lenOf pd___B_I rfl) rfl (by show 2 * 0 + _ ≤ _; exact Nat.le_of_eq rfl) (hB d19_3) (fun _ _ => ⟨rfl, e0, (by decide : 0 + 0 ≤ _), (by decide : 0 + 0 ≤ _)⟩)
  dsimp only [Pt.U, Pt.locs, Pt.cells, Pt.slots] at X431 l431 y431 z431 st431 hQ431
  subst l431 y431 z431
  obtain ⟨rfl, N431q, eq431⟩ := hQ431
  have N431 := Fr.app N0 N431q
  -- pc 6: java/lang/String.checkBoundsBeginEnd
  obtain ⟨_, _, ⟨T432, L432, k432, n432⟩, -, X432, ⟨Lc432, hQ432, l432, y432, z432⟩, st432⟩ := Jvm.LawKit.callS X431 hx (y := y18) hown (mvT hZ (W 121 rfl)) (mvT hZ (W 122 rfl)) (mvT hZ (W 10 rfl)) (mvT hZ (W 123 rfl)) (by decide) (backOf (W := 0) (rmscb l Z a0 G1 fm hG [] i (z >>> ((1 : Int32) &&& 31)) h0 n0 Z0 X00 (by first | assumption | decide | rfl) (by first | assumption | decide | rfl)) hZ (W 123 rfl) (W 10 rfl) (by decide) (by decide)) (g := (mkF m 6 #[.val (.int 0), .val (.int i), .val (.ref b)] [(.int (z >>> ((1 : Int32) &&& 31))), .int i, .int 0])) rfl (by rw [hml]; rfl) (argsL := [.int 0, .int i, (.int (z >>> ((1 : Int32) &&& 31)))]) (rest := []) (lenOf pd__III_V rfl) rfl (by show 2 * 0 + _ ≤ _; exact Nat.le_of_eq rfl) (hB d19_6) (fun _ _ => ⟨rfl, eq431, (by decide : 0 + 0 ≤ _), (by decide : 0 + 0 ≤ _)⟩)
  dsimp only [Pt.U, Pt.locs, Pt.cells, Pt.slots] at X432 l432 y432 z432 st432 hQ432
  subst l432 y432 z432
  obtain ⟨rfl, N432q, eq432⟩ := hQ432
  have N432 := Fr.app N431 N432q
  obtain ⟨fs, hr, hrun, hended, hW, hsame⟩ := X432.leave (v := none) (fun _ => rfl)
  refine ⟨_, _, castTop (ef_jdk_52_method_93_code_IIR m (0 : Int32) i b) ?_, hrun, hended, _, _, rfl, ?_, ⟨_, rfl⟩, hW, hsame.mono (own_ble rfl) (own_ble rfl)⟩
  · show Steps _ _ _ (s₁.setTop (mkF m 0 #[.val (.int 0), .val (.int i), .val (.ref b)] [])) _
    refine XS.iloadN X0.here hx rfl (hB d19_0) rfl ?_
    refine XS.iloadN X0.here hx rfl (hB d19_1) rfl ?_
    refine XS.aloadN X0.here hx rfl (hB d19_2) rfl rfl ?_
    refine st431 _ ?_
    show Steps _ _ _ (T431.setTop (mkF m 6 #[.val (.int 0), .val (.int i), .val (.ref b)] [(.int (z >>> ((1 : Int32) &&& 31))), .int i, .int 0])) _
    refine st432 _ ?_
    show Steps _ _ _ (T432.setTop (mkF m 9 #[.val (.int 0), .val (.int i), .val (.ref b)] [])) _
    exact X432.returnOut hx Bd.returns (hB d19_9) hr
  · show Qucb Z G1 fm i b kb z vs h0 n0 _ T432.heap _
    rw [eq432]
    exact ⟨rfl, N432, rfl⟩
theorem d20_0 : decode jdk_43_method_23_code 0 = .ok (.iload_n 1, 1) := by decide +kernel
theorem d20_1 : decode jdk_43_method_23_code 1 = .ok (.i2b, 1) := by decide +kernel
theorem d20_2 : decode jdk_43_method_23_code 2 = .ok (.istore 4, 2) := by decide +kernel
theorem d20_4 : decode jdk_43_method_23_code 4 = .ok (.iload_n 2, 1) := by decide +kernel
theorem d20_5 : decode jdk_43_method_23_code 5 = .ok (.istore 5, 2) := by decide +kernel
theorem d20_7 : decode jdk_43_method_23_code 7 = .ok (.iload 5, 2) := by decide +kernel
theorem d20_9 : decode jdk_43_method_23_code 9 = .ok (.iload_n 3, 1) := by decide +kernel
theorem d20_10 : decode jdk_43_method_23_code 10 = .ok (.if_icmp .ge 21, 3) := by decide +kernel
theorem d20_13 : decode jdk_43_method_23_code 13 = .ok (.aload_n 0, 1) := by decide +kernel
theorem d20_14 : decode jdk_43_method_23_code 14 = .ok (.iload 5, 2) := by decide +kernel
theorem d20_16 : decode jdk_43_method_23_code 16 = .ok (.baload, 1) := by decide +kernel
theorem d20_17 : decode jdk_43_method_23_code 17 = .ok (.iload 4, 2) := by decide +kernel
theorem d20_19 : decode jdk_43_method_23_code 19 = .ok (.if_icmp .ne 6, 3) := by decide +kernel
theorem d20_22 : decode jdk_43_method_23_code 22 = .ok (.iload 5, 2) := by decide +kernel
theorem d20_24 : decode jdk_43_method_23_code 24 = .ok (.ireturn, 1) := by decide +kernel
theorem d20_25 : decode jdk_43_method_23_code 25 = .ok (.iinc 5 1, 3) := by decide +kernel
theorem d20_28 : decode jdk_43_method_23_code 28 = .ok (.goto (-21), 3) := by decide +kernel
theorem d20_31 : decode jdk_43_method_23_code 31 = .ok (.iconst (-1), 1) := by decide +kernel
theorem d20_32 : decode jdk_43_method_23_code 32 = .ok (.ireturn, 1) := by decide +kernel
def QicL (Z : State) (G1 : Int32) (fm : Value) (b : Addr) (kb : ClassId) (z : Int32) (vs : List Value) (cd : Int32) (cs : List Int32) (nn : Int32) (h0 : Heap) (n0 : Nat) (v : Option Value) (h : Heap) (L : List Loc) : Prop := ∃ r : Int32, v = some (.int r) ∧ Fr n0 L ∧ h = h0 ∧ own_rs cs r
theorem ef_jdk_43_method_23_code_RIII (m : MethodId) (x0 : Addr) (x1 : Int32) (x2 : Int32) (x3 : Int32) : entryFrame m #[.ref x0, .int x1, .int x2, .int x3] 6 = mkF m 0 #[.val (.ref x0), .val (.int x1), .val (.int x2), .val (.int x3), .unset, .unset] [] := by first | (simp [entryFrame, mkF, argsToLocals, Value.category]; done) | rfl
abbrev y20 : MethodName := ⟨"java/lang/StringLatin1", "indexOfChar", "([BIII)I"⟩
theorem rmicL_h0 (l : Launch) (Z : State) (a0 : Array Value) (G1 : Int32) (fm : Value) (hG : Glob Z a0 G1 fm) (ws : List Jvm.Cond) (b : Addr) (kb : ClassId) (z : Int32) (vs : List Value) (cd : Int32) (cs : List Int32) (nn : Int32) (h0 : Heap) (n0 : Nat) (Z0 : n0 ≤ h0.size) (X00 : Old Z n0 h0) (V_b : Arv Z h0 b kb .byte z vs (.int 0)) (hL : cd = 0 ∧ z = Int32.ofNat cs.length ∧ vs = cs.map own_lb ∧ ∀ c ∈ cs, ¬ (255 : Int32) < c) (hn : cs.length < 5) (hu : ∀ c ∈ cs, own_u16 c) (en : nn = Int32.ofNat cs.length) (nz : (0 : Int32) < nn) (d0 : Int32) (gd0 : cs[0]? = some d0) (t0 : (0 : Int32) < nn) (ek : d0 = (45 : Int32)) (hrs : own_rs cs (0 : Int32)) :
    Met l Z h0 y20 jdk_43_method_23_code 6 (some .int) ws (Room.mk 0 0 0 0) #[.ref b, .int 45, .int 0, .int nn] (QicL Z G1 fm b kb z vs cd cs nn h0 n0) := by
  obtain ⟨hw, O_cs, P_cs, O_as, O_hi, O_lo, O_fm, R_fm⟩ := id hG
  have W := @own_W _ _ hw
  refine own_go "java/lang/StringLatin1" rfl (plainFor_of_name pn_java_lang_StringLatin1) ?_
  intro p e s m below meth c s₁ Bd hx hby hml hown hnm X0 e0 hZ
  have hB := @hb _ _ hby
  have N0 := Fr.nil n0
  have s0_ := own_sL 0 hL hn hu (i := (0 : Int32)) rfl gd0
  obtain ⟨clq433, Arq433, qaq433, Sq433, Nq433, Hq433, Gq433⟩ := id V_b
  have hinq433 := inb_of (j := (0 : Int32)) Sq433 ⟨s0_.1, s0_.2.1⟩
  have hatq433 := Has.at (v := (.int ((d0.toInt8.toInt32).toInt8.toInt32))) Hq433 hinq433 s0_.2.2.1
  obtain ⟨fs, hr, hrun, hended, hW, hsame⟩ := X0.leave (v := some (.int 0)) (fun h => by rw [Bd.returns] at h; cases h)
  refine ⟨_, _, castTop (ef_jdk_43_method_23_code_RIII m b (45 : Int32) (0 : Int32) nn) ?_, hrun, hended, _, _, rfl, ?_, ⟨_, rfl⟩, hW, hsame.mono (own_ble rfl) (own_ble rfl)⟩
  · show Steps _ _ _ (s₁.setTop (mkF m 0 #[.val (.ref b), .val (.int 45), .val (.int 0), .val (.int nn), .unset, .unset] [])) _
    refine XS.iloadN X0.here hx rfl (hB d20_0) rfl ?_
    refine XS.i2b X0.here hx rfl (hB d20_1) rfl ?_
    refine XS.istore X0.here hx rfl (hB d20_2) rfl (l' := #[.val (.ref b), .val (.int 45), .val (.int 0), .val (.int nn), .val (.int 45), .unset]) rfl ?_
    refine XS.iloadN X0.here hx rfl (hB d20_4) rfl ?_
    refine XS.istore X0.here hx rfl (hB d20_5) rfl (l' := #[.val (.ref b), .val (.int 45), .val (.int 0), .val (.int nn), .val (.int 45), .val (.int 0)]) rfl ?_
    refine XS.iload X0.here hx rfl (hB d20_7) rfl ?_
    refine XS.iloadN X0.here hx rfl (hB d20_9) rfl ?_
    refine XS.icmpNo X0.here hx rfl (hB d20_10) rfl (tlt (t0 : (0 : Int32) < nn)).2.1 ?_
    refine XS.aloadN X0.here hx rfl (hB d20_13) rfl rfl ?_
    refine XS.iload X0.here hx rfl (hB d20_14) rfl ?_
    refine X0.baloadBytes hx (j := (0 : Int32)) (v := (.int ((d0.toInt8.toInt32).toInt8.toInt32))) (own_cell e0 Arq433.1) (State.isArrayOf_alike hZ.alike Arq433.2.1) Arq433.2.2 hinq433 hatq433 (g := (mkF m 16 #[.val (.ref b), .val (.int 45), .val (.int 0), .val (.int nn), .val (.int 45), .val (.int 0)] [.int 0, .ref b])) rfl rfl (hB d20_16) _ ?_
    refine XS.iload X0.here hx rfl (hB d20_17) rfl ?_
    refine XS.icmpNo X0.here hx rfl (hB d20_19) rfl (teq ((own_lb45 (hu _ (own_mem gd0)) (hL.2.2.2 _ (own_mem gd0))).mpr ek : ((d0.toInt8.toInt32).toInt8.toInt32) = (45 : Int32))).2 ?_
    refine XS.iload X0.here hx rfl (hB d20_22) rfl ?_
    exact retOut X0 hx Bd.returns rfl (Or.inl ⟨rfl, Or.inl rfl, _, rfl⟩) (hB d20_24) hr
  · show QicL Z G1 fm b kb z vs cd cs nn h0 n0 _ s₁.heap _
    rw [e0]
    exact ⟨(0 : Int32), rfl, N0, rfl, hrs⟩
theorem rmicL_h1 (l : Launch) (Z : State) (a0 : Array Value) (G1 : Int32) (fm : Value) (hG : Glob Z a0 G1 fm) (ws : List Jvm.Cond) (b : Addr) (kb : ClassId) (z : Int32) (vs : List Value) (cd : Int32) (cs : List Int32) (nn : Int32) (h0 : Heap) (n0 : Nat) (Z0 : n0 ≤ h0.size) (X00 : Old Z n0 h0) (V_b : Arv Z h0 b kb .byte z vs (.int 0)) (hL : cd = 0 ∧ z = Int32.ofNat cs.length ∧ vs = cs.map own_lb ∧ ∀ c ∈ cs, ¬ (255 : Int32) < c) (hn : cs.length < 5) (hu : ∀ c ∈ cs, own_u16 c) (en : nn = Int32.ofNat cs.length) (nz : (0 : Int32) < nn) (d0 : Int32) (gd0 : cs[0]? = some d0) (t0 : (0 : Int32) < nn) (d1 : Int32) (gd1 : cs[1]? = some d1) (t1 : (1 : Int32) < nn) (m0 : ¬ d0 = (45 : Int32)) (ek : d1 = (45 : Int32)) (hrs : own_rs cs (1 : Int32)) :
    Met l Z h0 y20 jdk_43_method_23_code 6 (some .int) ws (Room.mk 0 0 0 0) #[.ref b, .int 45, .int 0, .int nn] (QicL Z G1 fm b kb z vs cd cs nn h0 n0) := by
  obtain ⟨hw, O_cs, P_cs, O_as, O_hi, O_lo, O_fm, R_fm⟩ := id hG
  have W := @own_W _ _ hw
  refine own_go "java/lang/StringLatin1" rfl (plainFor_of_name pn_java_lang_StringLatin1) ?_
  intro p e s m below meth c s₁ Bd hx hby hml hown hnm X0 e0 hZ
  have hB := @hb _ _ hby
  have N0 := Fr.nil n0
  have s0_ := own_sL 0 hL hn hu (i := (0 : Int32)) rfl gd0
  have s1_ := own_sL 1 hL hn hu (i := (1 : Int32)) rfl gd1
  obtain ⟨clq434, Arq434, qaq434, Sq434, Nq434, Hq434, Gq434⟩ := id V_b
  have hinq434 := inb_of (j := (0 : Int32)) Sq434 ⟨s0_.1, s0_.2.1⟩
  have hatq434 := Has.at (v := (.int ((d0.toInt8.toInt32).toInt8.toInt32))) Hq434 hinq434 s0_.2.2.1
  obtain ⟨clq435, Arq435, qaq435, Sq435, Nq435, Hq435, Gq435⟩ := id V_b
  have hinq435 := inb_of (j := (1 : Int32)) Sq435 ⟨s1_.1, s1_.2.1⟩
  have hatq435 := Has.at (v := (.int ((d1.toInt8.toInt32).toInt8.toInt32))) Hq435 hinq435 s1_.2.2.1
  obtain ⟨fs, hr, hrun, hended, hW, hsame⟩ := X0.leave (v := some (.int 1)) (fun h => by rw [Bd.returns] at h; cases h)
  refine ⟨_, _, castTop (ef_jdk_43_method_23_code_RIII m b (45 : Int32) (0 : Int32) nn) ?_, hrun, hended, _, _, rfl, ?_, ⟨_, rfl⟩, hW, hsame.mono (own_ble rfl) (own_ble rfl)⟩
  · show Steps _ _ _ (s₁.setTop (mkF m 0 #[.val (.ref b), .val (.int 45), .val (.int 0), .val (.int nn), .unset, .unset] [])) _
    refine XS.iloadN X0.here hx rfl (hB d20_0) rfl ?_
    refine XS.i2b X0.here hx rfl (hB d20_1) rfl ?_
    refine XS.istore X0.here hx rfl (hB d20_2) rfl (l' := #[.val (.ref b), .val (.int 45), .val (.int 0), .val (.int nn), .val (.int 45), .unset]) rfl ?_
    refine XS.iloadN X0.here hx rfl (hB d20_4) rfl ?_
    refine XS.istore X0.here hx rfl (hB d20_5) rfl (l' := #[.val (.ref b), .val (.int 45), .val (.int 0), .val (.int nn), .val (.int 45), .val (.int 0)]) rfl ?_
    refine XS.iload X0.here hx rfl (hB d20_7) rfl ?_
    refine XS.iloadN X0.here hx rfl (hB d20_9) rfl ?_
    refine XS.icmpNo X0.here hx rfl (hB d20_10) rfl (tlt (t0 : (0 : Int32) < nn)).2.1 ?_
    refine XS.aloadN X0.here hx rfl (hB d20_13) rfl rfl ?_
    refine XS.iload X0.here hx rfl (hB d20_14) rfl ?_
    refine X0.baloadBytes hx (j := (0 : Int32)) (v := (.int ((d0.toInt8.toInt32).toInt8.toInt32))) (own_cell e0 Arq434.1) (State.isArrayOf_alike hZ.alike Arq434.2.1) Arq434.2.2 hinq434 hatq434 (g := (mkF m 16 #[.val (.ref b), .val (.int 45), .val (.int 0), .val (.int nn), .val (.int 45), .val (.int 0)] [.int 0, .ref b])) rfl rfl (hB d20_16) _ ?_
    refine XS.iload X0.here hx rfl (hB d20_17) rfl ?_
    refine XS.icmpYes X0.here hx rfl (pc0 := 19) (pc' := 25) rfl (hB d20_19) rfl (feq (fun q_ => m0 ((own_lb45 (hu _ (own_mem gd0)) (hL.2.2.2 _ (own_mem gd0))).mp q_) : ¬ (((d0.toInt8.toInt32).toInt8.toInt32) = (45 : Int32)))).2 (by decide) (by decide) ?_
    refine XS.iinc X0.here hx rfl (hB d20_25) rfl (l' := #[.val (.ref b), .val (.int 45), .val (.int 0), .val (.int nn), .val (.int 45), .val (.int 1)]) rfl ?_
    refine XS.goto X0.here hx rfl (pc0 := 28) (pc' := 7) rfl (hB d20_28) (by decide) (by decide) ?_
    refine XS.iload X0.here hx rfl (hB d20_7) rfl ?_
    show Steps _ _ _ (s₁.setTop (mkF m 9 #[.val (.ref b), .val (.int 45), .val (.int 0), .val (.int nn), .val (.int 45), .val (.int 1)] [.int 1])) _
    refine XS.iloadN X0.here hx rfl (hB d20_9) rfl ?_
    refine XS.icmpNo X0.here hx rfl (hB d20_10) rfl (tlt (t1 : (1 : Int32) < nn)).2.1 ?_
    refine XS.aloadN X0.here hx rfl (hB d20_13) rfl rfl ?_
    refine XS.iload X0.here hx rfl (hB d20_14) rfl ?_
    refine X0.baloadBytes hx (j := (1 : Int32)) (v := (.int ((d1.toInt8.toInt32).toInt8.toInt32))) (own_cell e0 Arq435.1) (State.isArrayOf_alike hZ.alike Arq435.2.1) Arq435.2.2 hinq435 hatq435 (g := (mkF m 16 #[.val (.ref b), .val (.int 45), .val (.int 0), .val (.int nn), .val (.int 45), .val (.int 1)] [.int 1, .ref b])) rfl rfl (hB d20_16) _ ?_
    refine XS.iload X0.here hx rfl (hB d20_17) rfl ?_
    refine XS.icmpNo X0.here hx rfl (hB d20_19) rfl (teq ((own_lb45 (hu _ (own_mem gd1)) (hL.2.2.2 _ (own_mem gd1))).mpr ek : ((d1.toInt8.toInt32).toInt8.toInt32) = (45 : Int32))).2 ?_
    refine XS.iload X0.here hx rfl (hB d20_22) rfl ?_
    exact retOut X0 hx Bd.returns rfl (Or.inl ⟨rfl, Or.inl rfl, _, rfl⟩) (hB d20_24) hr
  · show QicL Z G1 fm b kb z vs cd cs nn h0 n0 _ s₁.heap _
    rw [e0]
    exact ⟨(1 : Int32), rfl, N0, rfl, hrs⟩
theorem rmicL_h2 (l : Launch) (Z : State) (a0 : Array Value) (G1 : Int32) (fm : Value) (hG : Glob Z a0 G1 fm) (ws : List Jvm.Cond) (b : Addr) (kb : ClassId) (z : Int32) (vs : List Value) (cd : Int32) (cs : List Int32) (nn : Int32) (h0 : Heap) (n0 : Nat) (Z0 : n0 ≤ h0.size) (X00 : Old Z n0 h0) (V_b : Arv Z h0 b kb .byte z vs (.int 0)) (hL : cd = 0 ∧ z = Int32.ofNat cs.length ∧ vs = cs.map own_lb ∧ ∀ c ∈ cs, ¬ (255 : Int32) < c) (hn : cs.length < 5) (hu : ∀ c ∈ cs, own_u16 c) (en : nn = Int32.ofNat cs.length) (nz : (0 : Int32) < nn) (d0 : Int32) (gd0 : cs[0]? = some d0) (t0 : (0 : Int32) < nn) (d1 : Int32) (gd1 : cs[1]? = some d1) (t1 : (1 : Int32) < nn) (d2 : Int32) (gd2 : cs[2]? = some d2) (t2 : (2 : Int32) < nn) (m0 : ¬ d0 = (45 : Int32)) (m1 : ¬ d1 = (45 : Int32)) (ek : d2 = (45 : Int32)) (hrs : own_rs cs (2 : Int32)) :
    Met l Z h0 y20 jdk_43_method_23_code 6 (some .int) ws (Room.mk 0 0 0 0) #[.ref b, .int 45, .int 0, .int nn] (QicL Z G1 fm b kb z vs cd cs nn h0 n0) := by
  obtain ⟨hw, O_cs, P_cs, O_as, O_hi, O_lo, O_fm, R_fm⟩ := id hG
  have W := @own_W _ _ hw
  refine own_go "java/lang/StringLatin1" rfl (plainFor_of_name pn_java_lang_StringLatin1) ?_
  intro p e s m below meth c s₁ Bd hx hby hml hown hnm X0 e0 hZ
  have hB := @hb _ _ hby
  have N0 := Fr.nil n0
  have s0_ := own_sL 0 hL hn hu (i := (0 : Int32)) rfl gd0
  have s1_ := own_sL 1 hL hn hu (i := (1 : Int32)) rfl gd1
  have s2_ := own_sL 2 hL hn hu (i := (2 : Int32)) rfl gd2
  obtain ⟨clq436, Arq436, qaq436, Sq436, Nq436, Hq436, Gq436⟩ := id V_b
  have hinq436 := inb_of (j := (0 : Int32)) Sq436 ⟨s0_.1, s0_.2.1⟩
  have hatq436 := Has.at (v := (.int ((d0.toInt8.toInt32).toInt8.toInt32))) Hq436 hinq436 s0_.2.2.1
  obtain ⟨clq437, Arq437, qaq437, Sq437, Nq437, Hq437, Gq437⟩ := id V_b
  have hinq437 := inb_of (j := (1 : Int32)) Sq437 ⟨s1_.1, s1_.2.1⟩
  have hatq437 := Has.at (v := (.int ((d1.toInt8.toInt32).toInt8.toInt32))) Hq437 hinq437 s1_.2.2.1
  obtain ⟨clq438, Arq438, qaq438, Sq438, Nq438, Hq438, Gq438⟩ := id V_b
  have hinq438 := inb_of (j := (2 : Int32)) Sq438 ⟨s2_.1, s2_.2.1⟩
  have hatq438 := Has.at (v := (.int ((d2.toInt8.toInt32).toInt8.toInt32))) Hq438 hinq438 s2_.2.2.1
  obtain ⟨fs, hr, hrun, hended, hW, hsame⟩ := X0.leave (v := some (.int 2)) (fun h => by rw [Bd.returns] at h; cases h)
  refine ⟨_, _, castTop (ef_jdk_43_method_23_code_RIII m b (45 : Int32) (0 : Int32) nn) ?_, hrun, hended, _, _, rfl, ?_, ⟨_, rfl⟩, hW, hsame.mono (own_ble rfl) (own_ble rfl)⟩
  · show Steps _ _ _ (s₁.setTop (mkF m 0 #[.val (.ref b), .val (.int 45), .val (.int 0), .val (.int nn), .unset, .unset] [])) _
    refine XS.iloadN X0.here hx rfl (hB d20_0) rfl ?_
    refine XS.i2b X0.here hx rfl (hB d20_1) rfl ?_
    refine XS.istore X0.here hx rfl (hB d20_2) rfl (l' := #[.val (.ref b), .val (.int 45), .val (.int 0), .val (.int nn), .val (.int 45), .unset]) rfl ?_
    refine XS.iloadN X0.here hx rfl (hB d20_4) rfl ?_
    refine XS.istore X0.here hx rfl (hB d20_5) rfl (l' := #[.val (.ref b), .val (.int 45), .val (.int 0), .val (.int nn), .val (.int 45), .val (.int 0)]) rfl ?_
    refine XS.iload X0.here hx rfl (hB d20_7) rfl ?_
    refine XS.iloadN X0.here hx rfl (hB d20_9) rfl ?_
    refine XS.icmpNo X0.here hx rfl (hB d20_10) rfl (tlt (t0 : (0 : Int32) < nn)).2.1 ?_
    refine XS.aloadN X0.here hx rfl (hB d20_13) rfl rfl ?_
    refine XS.iload X0.here hx rfl (hB d20_14) rfl ?_
    refine X0.baloadBytes hx (j := (0 : Int32)) (v := (.int ((d0.toInt8.toInt32).toInt8.toInt32))) (own_cell e0 Arq436.1) (State.isArrayOf_alike hZ.alike Arq436.2.1) Arq436.2.2 hinq436 hatq436 (g := (mkF m 16 #[.val (.ref b), .val (.int 45), .val (.int 0), .val (.int nn), .val (.int 45), .val (.int 0)] [.int 0, .ref b])) rfl rfl (hB d20_16) _ ?_
    refine XS.iload X0.here hx rfl (hB d20_17) rfl ?_
    refine XS.icmpYes X0.here hx rfl (pc0 := 19) (pc' := 25) rfl (hB d20_19) rfl (feq (fun q_ => m0 ((own_lb45 (hu _ (own_mem gd0)) (hL.2.2.2 _ (own_mem gd0))).mp q_) : ¬ (((d0.toInt8.toInt32).toInt8.toInt32) = (45 : Int32)))).2 (by decide) (by decide) ?_
    refine XS.iinc X0.here hx rfl (hB d20_25) rfl (l' := #[.val (.ref b), .val (.int 45), .val (.int 0), .val (.int nn), .val (.int 45), .val (.int 1)]) rfl ?_
    refine XS.goto X0.here hx rfl (pc0 := 28) (pc' := 7) rfl (hB d20_28) (by decide) (by decide) ?_
    refine XS.iload X0.here hx rfl (hB d20_7) rfl ?_
    show Steps _ _ _ (s₁.setTop (mkF m 9 #[.val (.ref b), .val (.int 45), .val (.int 0), .val (.int nn), .val (.int 45), .val (.int 1)] [.int 1])) _
    refine XS.iloadN X0.here hx rfl (hB d20_9) rfl ?_
    refine XS.icmpNo X0.here hx rfl (hB d20_10) rfl (tlt (t1 : (1 : Int32) < nn)).2.1 ?_
    refine XS.aloadN X0.here hx rfl (hB d20_13) rfl rfl ?_
    refine XS.iload X0.here hx rfl (hB d20_14) rfl ?_
    refine X0.baloadBytes hx (j := (1 : Int32)) (v := (.int ((d1.toInt8.toInt32).toInt8.toInt32))) (own_cell e0 Arq437.1) (State.isArrayOf_alike hZ.alike Arq437.2.1) Arq437.2.2 hinq437 hatq437 (g := (mkF m 16 #[.val (.ref b), .val (.int 45), .val (.int 0), .val (.int nn), .val (.int 45), .val (.int 1)] [.int 1, .ref b])) rfl rfl (hB d20_16) _ ?_
    refine XS.iload X0.here hx rfl (hB d20_17) rfl ?_
    refine XS.icmpYes X0.here hx rfl (pc0 := 19) (pc' := 25) rfl (hB d20_19) rfl (feq (fun q_ => m1 ((own_lb45 (hu _ (own_mem gd1)) (hL.2.2.2 _ (own_mem gd1))).mp q_) : ¬ (((d1.toInt8.toInt32).toInt8.toInt32) = (45 : Int32)))).2 (by decide) (by decide) ?_
    refine XS.iinc X0.here hx rfl (hB d20_25) rfl (l' := #[.val (.ref b), .val (.int 45), .val (.int 0), .val (.int nn), .val (.int 45), .val (.int 2)]) rfl ?_
    refine XS.goto X0.here hx rfl (pc0 := 28) (pc' := 7) rfl (hB d20_28) (by decide) (by decide) ?_
    refine XS.iload X0.here hx rfl (hB d20_7) rfl ?_
    refine XS.iloadN X0.here hx rfl (hB d20_9) rfl ?_
    refine XS.icmpNo X0.here hx rfl (hB d20_10) rfl (tlt (t2 : (2 : Int32) < nn)).2.1 ?_
    refine XS.aloadN X0.here hx rfl (hB d20_13) rfl rfl ?_
    refine XS.iload X0.here hx rfl (hB d20_14) rfl ?_
    refine X0.baloadBytes hx (j := (2 : Int32)) (v := (.int ((d2.toInt8.toInt32).toInt8.toInt32))) (own_cell e0 Arq438.1) (State.isArrayOf_alike hZ.alike Arq438.2.1) Arq438.2.2 hinq438 hatq438 (g := (mkF m 16 #[.val (.ref b), .val (.int 45), .val (.int 0), .val (.int nn), .val (.int 45), .val (.int 2)] [.int 2, .ref b])) rfl rfl (hB d20_16) _ ?_
    refine XS.iload X0.here hx rfl (hB d20_17) rfl ?_
    show Steps _ _ _ (s₁.setTop (mkF m 19 #[.val (.ref b), .val (.int 45), .val (.int 0), .val (.int nn), .val (.int 45), .val (.int 2)] [.int 45, (.int ((d2.toInt8.toInt32).toInt8.toInt32))])) _
    refine XS.icmpNo X0.here hx rfl (hB d20_19) rfl (teq ((own_lb45 (hu _ (own_mem gd2)) (hL.2.2.2 _ (own_mem gd2))).mpr ek : ((d2.toInt8.toInt32).toInt8.toInt32) = (45 : Int32))).2 ?_
    refine XS.iload X0.here hx rfl (hB d20_22) rfl ?_
    exact retOut X0 hx Bd.returns rfl (Or.inl ⟨rfl, Or.inl rfl, _, rfl⟩) (hB d20_24) hr
  · show QicL Z G1 fm b kb z vs cd cs nn h0 n0 _ s₁.heap _
    rw [e0]
    exact ⟨(2 : Int32), rfl, N0, rfl, hrs⟩
theorem rmicL_h3 (l : Launch) (Z : State) (a0 : Array Value) (G1 : Int32) (fm : Value) (hG : Glob Z a0 G1 fm) (ws : List Jvm.Cond) (b : Addr) (kb : ClassId) (z : Int32) (vs : List Value) (cd : Int32) (cs : List Int32) (nn : Int32) (h0 : Heap) (n0 : Nat) (Z0 : n0 ≤ h0.size) (X00 : Old Z n0 h0) (V_b : Arv Z h0 b kb .byte z vs (.int 0)) (hL : cd = 0 ∧ z = Int32.ofNat cs.length ∧ vs = cs.map own_lb ∧ ∀ c ∈ cs, ¬ (255 : Int32) < c) (hn : cs.length < 5) (hu : ∀ c ∈ cs, own_u16 c) (en : nn = Int32.ofNat cs.length) (nz : (0 : Int32) < nn) (d0 : Int32) (gd0 : cs[0]? = some d0) (t0 : (0 : Int32) < nn) (d1 : Int32) (gd1 : cs[1]? = some d1) (t1 : (1 : Int32) < nn) (d2 : Int32) (gd2 : cs[2]? = some d2) (t2 : (2 : Int32) < nn) (d3 : Int32) (gd3 : cs[3]? = some d3) (t3 : (3 : Int32) < nn) (m0 : ¬ d0 = (45 : Int32)) (m1 : ¬ d1 = (45 : Int32)) (m2 : ¬ d2 = (45 : Int32)) (ek : d3 = (45 : Int32)) (hrs : own_rs cs (3 : Int32)) :
    Met l Z h0 y20 jdk_43_method_23_code 6 (some .int) ws (Room.mk 0 0 0 0) #[.ref b, .int 45, .int 0, .int nn] (QicL Z G1 fm b kb z vs cd cs nn h0 n0) := by
  obtain ⟨hw, O_cs, P_cs, O_as, O_hi, O_lo, O_fm, R_fm⟩ := id hG
  have W := @own_W _ _ hw
  refine own_go "java/lang/StringLatin1" rfl (plainFor_of_name pn_java_lang_StringLatin1) ?_
  intro p e s m below meth c s₁ Bd hx hby hml hown hnm X0 e0 hZ
  have hB := @hb _ _ hby
  have N0 := Fr.nil n0
  have s0_ := own_sL 0 hL hn hu (i := (0 : Int32)) rfl gd0
  have s1_ := own_sL 1 hL hn hu (i := (1 : Int32)) rfl gd1
  have s2_ := own_sL 2 hL hn hu (i := (2 : Int32)) rfl gd2
  have s3_ := own_sL 3 hL hn hu (i := (3 : Int32)) rfl gd3
  obtain ⟨clq439, Arq439, qaq439, Sq439, Nq439, Hq439, Gq439⟩ := id V_b
  have hinq439 := inb_of (j := (0 : Int32)) Sq439 ⟨s0_.1, s0_.2.1⟩
  have hatq439 := Has.at (v := (.int ((d0.toInt8.toInt32).toInt8.toInt32))) Hq439 hinq439 s0_.2.2.1
  obtain ⟨clq440, Arq440, qaq440, Sq440, Nq440, Hq440, Gq440⟩ := id V_b
  have hinq440 := inb_of (j := (1 : Int32)) Sq440 ⟨s1_.1, s1_.2.1⟩
  have hatq440 := Has.at (v := (.int ((d1.toInt8.toInt32).toInt8.toInt32))) Hq440 hinq440 s1_.2.2.1
  obtain ⟨clq441, Arq441, qaq441, Sq441, Nq441, Hq441, Gq441⟩ := id V_b
  have hinq441 := inb_of (j := (2 : Int32)) Sq441 ⟨s2_.1, s2_.2.1⟩
  have hatq441 := Has.at (v := (.int ((d2.toInt8.toInt32).toInt8.toInt32))) Hq441 hinq441 s2_.2.2.1
  obtain ⟨clq442, Arq442, qaq442, Sq442, Nq442, Hq442, Gq442⟩ := id V_b
  have hinq442 := inb_of (j := (3 : Int32)) Sq442 ⟨s3_.1, s3_.2.1⟩
  have hatq442 := Has.at (v := (.int ((d3.toInt8.toInt32).toInt8.toInt32))) Hq442 hinq442 s3_.2.2.1
  obtain ⟨fs, hr, hrun, hended, hW, hsame⟩ := X0.leave (v := some (.int 3)) (fun h => by rw [Bd.returns] at h; cases h)
  refine ⟨_, _, castTop (ef_jdk_43_method_23_code_RIII m b (45 : Int32) (0 : Int32) nn) ?_, hrun, hended, _, _, rfl, ?_, ⟨_, rfl⟩, hW, hsame.mono (own_ble rfl) (own_ble rfl)⟩
  · show Steps _ _ _ (s₁.setTop (mkF m 0 #[.val (.ref b), .val (.int 45), .val (.int 0), .val (.int nn), .unset, .unset] [])) _
    refine XS.iloadN X0.here hx rfl (hB d20_0) rfl ?_
    refine XS.i2b X0.here hx rfl (hB d20_1) rfl ?_
    refine XS.istore X0.here hx rfl (hB d20_2) rfl (l' := #[.val (.ref b), .val (.int 45), .val (.int 0), .val (.int nn), .val (.int 45), .unset]) rfl ?_
    refine XS.iloadN X0.here hx rfl (hB d20_4) rfl ?_
    refine XS.istore X0.here hx rfl (hB d20_5) rfl (l' := #[.val (.ref b), .val (.int 45), .val (.int 0), .val (.int nn), .val (.int 45), .val (.int 0)]) rfl ?_
    refine XS.iload X0.here hx rfl (hB d20_7) rfl ?_
    refine XS.iloadN X0.here hx rfl (hB d20_9) rfl ?_
    refine XS.icmpNo X0.here hx rfl (hB d20_10) rfl (tlt (t0 : (0 : Int32) < nn)).2.1 ?_
    refine XS.aloadN X0.here hx rfl (hB d20_13) rfl rfl ?_
    refine XS.iload X0.here hx rfl (hB d20_14) rfl ?_
    refine X0.baloadBytes hx (j := (0 : Int32)) (v := (.int ((d0.toInt8.toInt32).toInt8.toInt32))) (own_cell e0 Arq439.1) (State.isArrayOf_alike hZ.alike Arq439.2.1) Arq439.2.2 hinq439 hatq439 (g := (mkF m 16 #[.val (.ref b), .val (.int 45), .val (.int 0), .val (.int nn), .val (.int 45), .val (.int 0)] [.int 0, .ref b])) rfl rfl (hB d20_16) _ ?_
    refine XS.iload X0.here hx rfl (hB d20_17) rfl ?_
    refine XS.icmpYes X0.here hx rfl (pc0 := 19) (pc' := 25) rfl (hB d20_19) rfl (feq (fun q_ => m0 ((own_lb45 (hu _ (own_mem gd0)) (hL.2.2.2 _ (own_mem gd0))).mp q_) : ¬ (((d0.toInt8.toInt32).toInt8.toInt32) = (45 : Int32)))).2 (by decide) (by decide) ?_
    refine XS.iinc X0.here hx rfl (hB d20_25) rfl (l' := #[.val (.ref b), .val (.int 45), .val (.int 0), .val (.int nn), .val (.int 45), .val (.int 1)]) rfl ?_
    refine XS.goto X0.here hx rfl (pc0 := 28) (pc' := 7) rfl (hB d20_28) (by decide) (by decide) ?_
    refine XS.iload X0.here hx rfl (hB d20_7) rfl ?_
    show Steps _ _ _ (s₁.setTop (mkF m 9 #[.val (.ref b), .val (.int 45), .val (.int 0), .val (.int nn), .val (.int 45), .val (.int 1)] [.int 1])) _
    refine XS.iloadN X0.here hx rfl (hB d20_9) rfl ?_
    refine XS.icmpNo X0.here hx rfl (hB d20_10) rfl (tlt (t1 : (1 : Int32) < nn)).2.1 ?_
    refine XS.aloadN X0.here hx rfl (hB d20_13) rfl rfl ?_
    refine XS.iload X0.here hx rfl (hB d20_14) rfl ?_
    refine X0.baloadBytes hx (j := (1 : Int32)) (v := (.int ((d1.toInt8.toInt32).toInt8.toInt32))) (own_cell e0 Arq440.1) (State.isArrayOf_alike hZ.alike Arq440.2.1) Arq440.2.2 hinq440 hatq440 (g := (mkF m 16 #[.val (.ref b), .val (.int 45), .val (.int 0), .val (.int nn), .val (.int 45), .val (.int 1)] [.int 1, .ref b])) rfl rfl (hB d20_16) _ ?_
    refine XS.iload X0.here hx rfl (hB d20_17) rfl ?_
    refine XS.icmpYes X0.here hx rfl (pc0 := 19) (pc' := 25) rfl (hB d20_19) rfl (feq (fun q_ => m1 ((own_lb45 (hu _ (own_mem gd1)) (hL.2.2.2 _ (own_mem gd1))).mp q_) : ¬ (((d1.toInt8.toInt32).toInt8.toInt32) = (45 : Int32)))).2 (by decide) (by decide) ?_
    refine XS.iinc X0.here hx rfl (hB d20_25) rfl (l' := #[.val (.ref b), .val (.int 45), .val (.int 0), .val (.int nn), .val (.int 45), .val (.int 2)]) rfl ?_
    refine XS.goto X0.here hx rfl (pc0 := 28) (pc' := 7) rfl (hB d20_28) (by decide) (by decide) ?_
    refine XS.iload X0.here hx rfl (hB d20_7) rfl ?_
    refine XS.iloadN X0.here hx rfl (hB d20_9) rfl ?_
    refine XS.icmpNo X0.here hx rfl (hB d20_10) rfl (tlt (t2 : (2 : Int32) < nn)).2.1 ?_
    refine XS.aloadN X0.here hx rfl (hB d20_13) rfl rfl ?_
    refine XS.iload X0.here hx rfl (hB d20_14) rfl ?_
    refine X0.baloadBytes hx (j := (2 : Int32)) (v := (.int ((d2.toInt8.toInt32).toInt8.toInt32))) (own_cell e0 Arq441.1) (State.isArrayOf_alike hZ.alike Arq441.2.1) Arq441.2.2 hinq441 hatq441 (g := (mkF m 16 #[.val (.ref b), .val (.int 45), .val (.int 0), .val (.int nn), .val (.int 45), .val (.int 2)] [.int 2, .ref b])) rfl rfl (hB d20_16) _ ?_
    refine XS.iload X0.here hx rfl (hB d20_17) rfl ?_
    show Steps _ _ _ (s₁.setTop (mkF m 19 #[.val (.ref b), .val (.int 45), .val (.int 0), .val (.int nn), .val (.int 45), .val (.int 2)] [.int 45, (.int ((d2.toInt8.toInt32).toInt8.toInt32))])) _
    refine XS.icmpYes X0.here hx rfl (pc0 := 19) (pc' := 25) rfl (hB d20_19) rfl (feq (fun q_ => m2 ((own_lb45 (hu _ (own_mem gd2)) (hL.2.2.2 _ (own_mem gd2))).mp q_) : ¬ (((d2.toInt8.toInt32).toInt8.toInt32) = (45 : Int32)))).2 (by decide) (by decide) ?_
    refine XS.iinc X0.here hx rfl (hB d20_25) rfl (l' := #[.val (.ref b), .val (.int 45), .val (.int 0), .val (.int nn), .val (.int 45), .val (.int 3)]) rfl ?_
    refine XS.goto X0.here hx rfl (pc0 := 28) (pc' := 7) rfl (hB d20_28) (by decide) (by decide) ?_
    refine XS.iload X0.here hx rfl (hB d20_7) rfl ?_
    refine XS.iloadN X0.here hx rfl (hB d20_9) rfl ?_
    refine XS.icmpNo X0.here hx rfl (hB d20_10) rfl (tlt (t3 : (3 : Int32) < nn)).2.1 ?_
    refine XS.aloadN X0.here hx rfl (hB d20_13) rfl rfl ?_
    refine XS.iload X0.here hx rfl (hB d20_14) rfl ?_
    refine X0.baloadBytes hx (j := (3 : Int32)) (v := (.int ((d3.toInt8.toInt32).toInt8.toInt32))) (own_cell e0 Arq442.1) (State.isArrayOf_alike hZ.alike Arq442.2.1) Arq442.2.2 hinq442 hatq442 (g := (mkF m 16 #[.val (.ref b), .val (.int 45), .val (.int 0), .val (.int nn), .val (.int 45), .val (.int 3)] [.int 3, .ref b])) rfl rfl (hB d20_16) _ ?_
    refine XS.iload X0.here hx rfl (hB d20_17) rfl ?_
    refine XS.icmpNo X0.here hx rfl (hB d20_19) rfl (teq ((own_lb45 (hu _ (own_mem gd3)) (hL.2.2.2 _ (own_mem gd3))).mpr ek : ((d3.toInt8.toInt32).toInt8.toInt32) = (45 : Int32))).2 ?_
    refine XS.iload X0.here hx rfl (hB d20_22) rfl ?_
    exact retOut X0 hx Bd.returns rfl (Or.inl ⟨rfl, Or.inl rfl, _, rfl⟩) (hB d20_24) hr
  · show QicL Z G1 fm b kb z vs cd cs nn h0 n0 _ s₁.heap _
    rw [e0]
    exact ⟨(3 : Int32), rfl, N0, rfl, hrs⟩
theorem rmicL_m1 (l : Launch) (Z : State) (a0 : Array Value) (G1 : Int32) (fm : Value) (hG : Glob Z a0 G1 fm) (ws : List Jvm.Cond) (b : Addr) (kb : ClassId) (z : Int32) (vs : List Value) (cd : Int32) (cs : List Int32) (nn : Int32) (h0 : Heap) (n0 : Nat) (Z0 : n0 ≤ h0.size) (X00 : Old Z n0 h0) (V_b : Arv Z h0 b kb .byte z vs (.int 0)) (hL : cd = 0 ∧ z = Int32.ofNat cs.length ∧ vs = cs.map own_lb ∧ ∀ c ∈ cs, ¬ (255 : Int32) < c) (hn : cs.length < 5) (hu : ∀ c ∈ cs, own_u16 c) (en : nn = Int32.ofNat cs.length) (nz : (0 : Int32) < nn) (d0 : Int32) (gd0 : cs[0]? = some d0) (t0 : (0 : Int32) < nn) (m0 : ¬ d0 = (45 : Int32)) (te : ¬ ((1 : Int32) < nn)) (hrs : own_rs cs (-1 : Int32)) :
    Met l Z h0 y20 jdk_43_method_23_code 6 (some .int) ws (Room.mk 0 0 0 0) #[.ref b, .int 45, .int 0, .int nn] (QicL Z G1 fm b kb z vs cd cs nn h0 n0) := by
  obtain ⟨hw, O_cs, P_cs, O_as, O_hi, O_lo, O_fm, R_fm⟩ := id hG
  have W := @own_W _ _ hw
  refine own_go "java/lang/StringLatin1" rfl (plainFor_of_name pn_java_lang_StringLatin1) ?_
  intro p e s m below meth c s₁ Bd hx hby hml hown hnm X0 e0 hZ
  have hB := @hb _ _ hby
  have N0 := Fr.nil n0
  have s0_ := own_sL 0 hL hn hu (i := (0 : Int32)) rfl gd0
  obtain ⟨clq443, Arq443, qaq443, Sq443, Nq443, Hq443, Gq443⟩ := id V_b
  have hinq443 := inb_of (j := (0 : Int32)) Sq443 ⟨s0_.1, s0_.2.1⟩
  have hatq443 := Has.at (v := (.int ((d0.toInt8.toInt32).toInt8.toInt32))) Hq443 hinq443 s0_.2.2.1
  obtain ⟨fs, hr, hrun, hended, hW, hsame⟩ := X0.leave (v := some (.int (-1))) (fun h => by rw [Bd.returns] at h; cases h)
  refine ⟨_, _, castTop (ef_jdk_43_method_23_code_RIII m b (45 : Int32) (0 : Int32) nn) ?_, hrun, hended, _, _, rfl, ?_, ⟨_, rfl⟩, hW, hsame.mono (own_ble rfl) (own_ble rfl)⟩
  · show Steps _ _ _ (s₁.setTop (mkF m 0 #[.val (.ref b), .val (.int 45), .val (.int 0), .val (.int nn), .unset, .unset] [])) _
    refine XS.iloadN X0.here hx rfl (hB d20_0) rfl ?_
    refine XS.i2b X0.here hx rfl (hB d20_1) rfl ?_
    refine XS.istore X0.here hx rfl (hB d20_2) rfl (l' := #[.val (.ref b), .val (.int 45), .val (.int 0), .val (.int nn), .val (.int 45), .unset]) rfl ?_
    refine XS.iloadN X0.here hx rfl (hB d20_4) rfl ?_
    refine XS.istore X0.here hx rfl (hB d20_5) rfl (l' := #[.val (.ref b), .val (.int 45), .val (.int 0), .val (.int nn), .val (.int 45), .val (.int 0)]) rfl ?_
    refine XS.iload X0.here hx rfl (hB d20_7) rfl ?_
    refine XS.iloadN X0.here hx rfl (hB d20_9) rfl ?_
    refine XS.icmpNo X0.here hx rfl (hB d20_10) rfl (tlt (t0 : (0 : Int32) < nn)).2.1 ?_
    refine XS.aloadN X0.here hx rfl (hB d20_13) rfl rfl ?_
    refine XS.iload X0.here hx rfl (hB d20_14) rfl ?_
    refine X0.baloadBytes hx (j := (0 : Int32)) (v := (.int ((d0.toInt8.toInt32).toInt8.toInt32))) (own_cell e0 Arq443.1) (State.isArrayOf_alike hZ.alike Arq443.2.1) Arq443.2.2 hinq443 hatq443 (g := (mkF m 16 #[.val (.ref b), .val (.int 45), .val (.int 0), .val (.int nn), .val (.int 45), .val (.int 0)] [.int 0, .ref b])) rfl rfl (hB d20_16) _ ?_
    refine XS.iload X0.here hx rfl (hB d20_17) rfl ?_
    refine XS.icmpYes X0.here hx rfl (pc0 := 19) (pc' := 25) rfl (hB d20_19) rfl (feq (fun q_ => m0 ((own_lb45 (hu _ (own_mem gd0)) (hL.2.2.2 _ (own_mem gd0))).mp q_) : ¬ (((d0.toInt8.toInt32).toInt8.toInt32) = (45 : Int32)))).2 (by decide) (by decide) ?_
    refine XS.iinc X0.here hx rfl (hB d20_25) rfl (l' := #[.val (.ref b), .val (.int 45), .val (.int 0), .val (.int nn), .val (.int 45), .val (.int 1)]) rfl ?_
    refine XS.goto X0.here hx rfl (pc0 := 28) (pc' := 7) rfl (hB d20_28) (by decide) (by decide) ?_
    refine XS.iload X0.here hx rfl (hB d20_7) rfl ?_
    show Steps _ _ _ (s₁.setTop (mkF m 9 #[.val (.ref b), .val (.int 45), .val (.int 0), .val (.int nn), .val (.int 45), .val (.int 1)] [.int 1])) _
    refine XS.iloadN X0.here hx rfl (hB d20_9) rfl ?_
    refine XS.icmpYes X0.here hx rfl (pc0 := 10) (pc' := 31) rfl (hB d20_10) rfl (flt (te : ¬ ((1 : Int32) < nn))).2.1 (by decide) (by decide) ?_
    refine XS.iconst X0.here hx rfl (hB d20_31) ?_
    exact retOut X0 hx Bd.returns rfl (Or.inl ⟨rfl, Or.inl rfl, _, rfl⟩) (hB d20_32) hr
  · show QicL Z G1 fm b kb z vs cd cs nn h0 n0 _ s₁.heap _
    rw [e0]
    exact ⟨(-1 : Int32), rfl, N0, rfl, hrs⟩
theorem rmicL_m2 (l : Launch) (Z : State) (a0 : Array Value) (G1 : Int32) (fm : Value) (hG : Glob Z a0 G1 fm) (ws : List Jvm.Cond) (b : Addr) (kb : ClassId) (z : Int32) (vs : List Value) (cd : Int32) (cs : List Int32) (nn : Int32) (h0 : Heap) (n0 : Nat) (Z0 : n0 ≤ h0.size) (X00 : Old Z n0 h0) (V_b : Arv Z h0 b kb .byte z vs (.int 0)) (hL : cd = 0 ∧ z = Int32.ofNat cs.length ∧ vs = cs.map own_lb ∧ ∀ c ∈ cs, ¬ (255 : Int32) < c) (hn : cs.length < 5) (hu : ∀ c ∈ cs, own_u16 c) (en : nn = Int32.ofNat cs.length) (nz : (0 : Int32) < nn) (d0 : Int32) (gd0 : cs[0]? = some d0) (t0 : (0 : Int32) < nn) (d1 : Int32) (gd1 : cs[1]? = some d1) (t1 : (1 : Int32) < nn) (m0 : ¬ d0 = (45 : Int32)) (m1 : ¬ d1 = (45 : Int32)) (te : ¬ ((2 : Int32) < nn)) (hrs : own_rs cs (-1 : Int32)) :
    Met l Z h0 y20 jdk_43_method_23_code 6 (some .int) ws (Room.mk 0 0 0 0) #[.ref b, .int 45, .int 0, .int nn] (QicL Z G1 fm b kb z vs cd cs nn h0 n0) := by
  obtain ⟨hw, O_cs, P_cs, O_as, O_hi, O_lo, O_fm, R_fm⟩ := id hG
  have W := @own_W _ _ hw
  refine own_go "java/lang/StringLatin1" rfl (plainFor_of_name pn_java_lang_StringLatin1) ?_
  intro p e s m below meth c s₁ Bd hx hby hml hown hnm X0 e0 hZ
  have hB := @hb _ _ hby
  have N0 := Fr.nil n0
  have s0_ := own_sL 0 hL hn hu (i := (0 : Int32)) rfl gd0
  have s1_ := own_sL 1 hL hn hu (i := (1 : Int32)) rfl gd1
  obtain ⟨clq444, Arq444, qaq444, Sq444, Nq444, Hq444, Gq444⟩ := id V_b
  have hinq444 := inb_of (j := (0 : Int32)) Sq444 ⟨s0_.1, s0_.2.1⟩
  have hatq444 := Has.at (v := (.int ((d0.toInt8.toInt32).toInt8.toInt32))) Hq444 hinq444 s0_.2.2.1
  obtain ⟨clq445, Arq445, qaq445, Sq445, Nq445, Hq445, Gq445⟩ := id V_b
  have hinq445 := inb_of (j := (1 : Int32)) Sq445 ⟨s1_.1, s1_.2.1⟩
  have hatq445 := Has.at (v := (.int ((d1.toInt8.toInt32).toInt8.toInt32))) Hq445 hinq445 s1_.2.2.1
  obtain ⟨fs, hr, hrun, hended, hW, hsame⟩ := X0.leave (v := some (.int (-1))) (fun h => by rw [Bd.returns] at h; cases h)
  refine ⟨_, _, castTop (ef_jdk_43_method_23_code_RIII m b (45 : Int32) (0 : Int32) nn) ?_, hrun, hended, _, _, rfl, ?_, ⟨_, rfl⟩, hW, hsame.mono (own_ble rfl) (own_ble rfl)⟩
  · show Steps _ _ _ (s₁.setTop (mkF m 0 #[.val (.ref b), .val (.int 45), .val (.int 0), .val (.int nn), .unset, .unset] [])) _
    refine XS.iloadN X0.here hx rfl (hB d20_0) rfl ?_
    refine XS.i2b X0.here hx rfl (hB d20_1) rfl ?_
    refine XS.istore X0.here hx rfl (hB d20_2) rfl (l' := #[.val (.ref b), .val (.int 45), .val (.int 0), .val (.int nn), .val (.int 45), .unset]) rfl ?_
    refine XS.iloadN X0.here hx rfl (hB d20_4) rfl ?_
    refine XS.istore X0.here hx rfl (hB d20_5) rfl (l' := #[.val (.ref b), .val (.int 45), .val (.int 0), .val (.int nn), .val (.int 45), .val (.int 0)]) rfl ?_
    refine XS.iload X0.here hx rfl (hB d20_7) rfl ?_
    refine XS.iloadN X0.here hx rfl (hB d20_9) rfl ?_
    refine XS.icmpNo X0.here hx rfl (hB d20_10) rfl (tlt (t0 : (0 : Int32) < nn)).2.1 ?_
    refine XS.aloadN X0.here hx rfl (hB d20_13) rfl rfl ?_
    refine XS.iload X0.here hx rfl (hB d20_14) rfl ?_
    refine X0.baloadBytes hx (j := (0 : Int32)) (v := (.int ((d0.toInt8.toInt32).toInt8.toInt32))) (own_cell e0 Arq444.1) (State.isArrayOf_alike hZ.alike Arq444.2.1) Arq444.2.2 hinq444 hatq444 (g := (mkF m 16 #[.val (.ref b), .val (.int 45), .val (.int 0), .val (.int nn), .val (.int 45), .val (.int 0)] [.int 0, .ref b])) rfl rfl (hB d20_16) _ ?_
    refine XS.iload X0.here hx rfl (hB d20_17) rfl ?_
    refine XS.icmpYes X0.here hx rfl (pc0 := 19) (pc' := 25) rfl (hB d20_19) rfl (feq (fun q_ => m0 ((own_lb45 (hu _ (own_mem gd0)) (hL.2.2.2 _ (own_mem gd0))).mp q_) : ¬ (((d0.toInt8.toInt32).toInt8.toInt32) = (45 : Int32)))).2 (by decide) (by decide) ?_
    refine XS.iinc X0.here hx rfl (hB d20_25) rfl (l' := #[.val (.ref b), .val (.int 45), .val (.int 0), .val (.int nn), .val (.int 45), .val (.int 1)]) rfl ?_
    refine XS.goto X0.here hx rfl (pc0 := 28) (pc' := 7) rfl (hB d20_28) (by decide) (by decide) ?_
    refine XS.iload X0.here hx rfl (hB d20_7) rfl ?_
    show Steps _ _ _ (s₁.setTop (mkF m 9 #[.val (.ref b), .val (.int 45), .val (.int 0), .val (.int nn), .val (.int 45), .val (.int 1)] [.int 1])) _
    refine XS.iloadN X0.here hx rfl (hB d20_9) rfl ?_
    refine XS.icmpNo X0.here hx rfl (hB d20_10) rfl (tlt (t1 : (1 : Int32) < nn)).2.1 ?_
    refine XS.aloadN X0.here hx rfl (hB d20_13) rfl rfl ?_
    refine XS.iload X0.here hx rfl (hB d20_14) rfl ?_
    refine X0.baloadBytes hx (j := (1 : Int32)) (v := (.int ((d1.toInt8.toInt32).toInt8.toInt32))) (own_cell e0 Arq445.1) (State.isArrayOf_alike hZ.alike Arq445.2.1) Arq445.2.2 hinq445 hatq445 (g := (mkF m 16 #[.val (.ref b), .val (.int 45), .val (.int 0), .val (.int nn), .val (.int 45), .val (.int 1)] [.int 1, .ref b])) rfl rfl (hB d20_16) _ ?_
    refine XS.iload X0.here hx rfl (hB d20_17) rfl ?_
    refine XS.icmpYes X0.here hx rfl (pc0 := 19) (pc' := 25) rfl (hB d20_19) rfl (feq (fun q_ => m1 ((own_lb45 (hu _ (own_mem gd1)) (hL.2.2.2 _ (own_mem gd1))).mp q_) : ¬ (((d1.toInt8.toInt32).toInt8.toInt32) = (45 : Int32)))).2 (by decide) (by decide) ?_
    refine XS.iinc X0.here hx rfl (hB d20_25) rfl (l' := #[.val (.ref b), .val (.int 45), .val (.int 0), .val (.int nn), .val (.int 45), .val (.int 2)]) rfl ?_
    refine XS.goto X0.here hx rfl (pc0 := 28) (pc' := 7) rfl (hB d20_28) (by decide) (by decide) ?_
    refine XS.iload X0.here hx rfl (hB d20_7) rfl ?_
    refine XS.iloadN X0.here hx rfl (hB d20_9) rfl ?_
    refine XS.icmpYes X0.here hx rfl (pc0 := 10) (pc' := 31) rfl (hB d20_10) rfl (flt (te : ¬ ((2 : Int32) < nn))).2.1 (by decide) (by decide) ?_
    refine XS.iconst X0.here hx rfl (hB d20_31) ?_
    exact retOut X0 hx Bd.returns rfl (Or.inl ⟨rfl, Or.inl rfl, _, rfl⟩) (hB d20_32) hr
  · show QicL Z G1 fm b kb z vs cd cs nn h0 n0 _ s₁.heap _
    rw [e0]
    exact ⟨(-1 : Int32), rfl, N0, rfl, hrs⟩
theorem rmicL_m3 (l : Launch) (Z : State) (a0 : Array Value) (G1 : Int32) (fm : Value) (hG : Glob Z a0 G1 fm) (ws : List Jvm.Cond) (b : Addr) (kb : ClassId) (z : Int32) (vs : List Value) (cd : Int32) (cs : List Int32) (nn : Int32) (h0 : Heap) (n0 : Nat) (Z0 : n0 ≤ h0.size) (X00 : Old Z n0 h0) (V_b : Arv Z h0 b kb .byte z vs (.int 0)) (hL : cd = 0 ∧ z = Int32.ofNat cs.length ∧ vs = cs.map own_lb ∧ ∀ c ∈ cs, ¬ (255 : Int32) < c) (hn : cs.length < 5) (hu : ∀ c ∈ cs, own_u16 c) (en : nn = Int32.ofNat cs.length) (nz : (0 : Int32) < nn) (d0 : Int32) (gd0 : cs[0]? = some d0) (t0 : (0 : Int32) < nn) (d1 : Int32) (gd1 : cs[1]? = some d1) (t1 : (1 : Int32) < nn) (d2 : Int32) (gd2 : cs[2]? = some d2) (t2 : (2 : Int32) < nn) (m0 : ¬ d0 = (45 : Int32)) (m1 : ¬ d1 = (45 : Int32)) (m2 : ¬ d2 = (45 : Int32)) (te : ¬ ((3 : Int32) < nn)) (hrs : own_rs cs (-1 : Int32)) :
    Met l Z h0 y20 jdk_43_method_23_code 6 (some .int) ws (Room.mk 0 0 0 0) #[.ref b, .int 45, .int 0, .int nn] (QicL Z G1 fm b kb z vs cd cs nn h0 n0) := by
  obtain ⟨hw, O_cs, P_cs, O_as, O_hi, O_lo, O_fm, R_fm⟩ := id hG
  have W := @own_W _ _ hw
  refine own_go "java/lang/StringLatin1" rfl (plainFor_of_name pn_java_lang_StringLatin1) ?_
  intro p e s m below meth c s₁ Bd hx hby hml hown hnm X0 e0 hZ
  have hB := @hb _ _ hby
  have N0 := Fr.nil n0
  have s0_ := own_sL 0 hL hn hu (i := (0 : Int32)) rfl gd0
  have s1_ := own_sL 1 hL hn hu (i := (1 : Int32)) rfl gd1
  have s2_ := own_sL 2 hL hn hu (i := (2 : Int32)) rfl gd2
  obtain ⟨clq446, Arq446, qaq446, Sq446, Nq446, Hq446, Gq446⟩ := id V_b
  have hinq446 := inb_of (j := (0 : Int32)) Sq446 ⟨s0_.1, s0_.2.1⟩
  have hatq446 := Has.at (v := (.int ((d0.toInt8.toInt32).toInt8.toInt32))) Hq446 hinq446 s0_.2.2.1
  obtain ⟨clq447, Arq447, qaq447, Sq447, Nq447, Hq447, Gq447⟩ := id V_b
  have hinq447 := inb_of (j := (1 : Int32)) Sq447 ⟨s1_.1, s1_.2.1⟩
  have hatq447 := Has.at (v := (.int ((d1.toInt8.toInt32).toInt8.toInt32))) Hq447 hinq447 s1_.2.2.1
  obtain ⟨clq448, Arq448, qaq448, Sq448, Nq448, Hq448, Gq448⟩ := id V_b
  have hinq448 := inb_of (j := (2 : Int32)) Sq448 ⟨s2_.1, s2_.2.1⟩
  have hatq448 := Has.at (v := (.int ((d2.toInt8.toInt32).toInt8.toInt32))) Hq448 hinq448 s2_.2.2.1
  obtain ⟨fs, hr, hrun, hended, hW, hsame⟩ := X0.leave (v := some (.int (-1))) (fun h => by rw [Bd.returns] at h; cases h)
  refine ⟨_, _, castTop (ef_jdk_43_method_23_code_RIII m b (45 : Int32) (0 : Int32) nn) ?_, hrun, hended, _, _, rfl, ?_, ⟨_, rfl⟩, hW, hsame.mono (own_ble rfl) (own_ble rfl)⟩
  · show Steps _ _ _ (s₁.setTop (mkF m 0 #[.val (.ref b), .val (.int 45), .val (.int 0), .val (.int nn), .unset, .unset] [])) _
    refine XS.iloadN X0.here hx rfl (hB d20_0) rfl ?_
    refine XS.i2b X0.here hx rfl (hB d20_1) rfl ?_
    refine XS.istore X0.here hx rfl (hB d20_2) rfl (l' := #[.val (.ref b), .val (.int 45), .val (.int 0), .val (.int nn), .val (.int 45), .unset]) rfl ?_
    refine XS.iloadN X0.here hx rfl (hB d20_4) rfl ?_
    refine XS.istore X0.here hx rfl (hB d20_5) rfl (l' := #[.val (.ref b), .val (.int 45), .val (.int 0), .val (.int nn), .val (.int 45), .val (.int 0)]) rfl ?_
    refine XS.iload X0.here hx rfl (hB d20_7) rfl ?_
    refine XS.iloadN X0.here hx rfl (hB d20_9) rfl ?_
    refine XS.icmpNo X0.here hx rfl (hB d20_10) rfl (tlt (t0 : (0 : Int32) < nn)).2.1 ?_
    refine XS.aloadN X0.here hx rfl (hB d20_13) rfl rfl ?_
    refine XS.iload X0.here hx rfl (hB d20_14) rfl ?_
    refine X0.baloadBytes hx (j := (0 : Int32)) (v := (.int ((d0.toInt8.toInt32).toInt8.toInt32))) (own_cell e0 Arq446.1) (State.isArrayOf_alike hZ.alike Arq446.2.1) Arq446.2.2 hinq446 hatq446 (g := (mkF m 16 #[.val (.ref b), .val (.int 45), .val (.int 0), .val (.int nn), .val (.int 45), .val (.int 0)] [.int 0, .ref b])) rfl rfl (hB d20_16) _ ?_
    refine XS.iload X0.here hx rfl (hB d20_17) rfl ?_
    refine XS.icmpYes X0.here hx rfl (pc0 := 19) (pc' := 25) rfl (hB d20_19) rfl (feq (fun q_ => m0 ((own_lb45 (hu _ (own_mem gd0)) (hL.2.2.2 _ (own_mem gd0))).mp q_) : ¬ (((d0.toInt8.toInt32).toInt8.toInt32) = (45 : Int32)))).2 (by decide) (by decide) ?_
    refine XS.iinc X0.here hx rfl (hB d20_25) rfl (l' := #[.val (.ref b), .val (.int 45), .val (.int 0), .val (.int nn), .val (.int 45), .val (.int 1)]) rfl ?_
    refine XS.goto X0.here hx rfl (pc0 := 28) (pc' := 7) rfl (hB d20_28) (by decide) (by decide) ?_
    refine XS.iload X0.here hx rfl (hB d20_7) rfl ?_
    show Steps _ _ _ (s₁.setTop (mkF m 9 #[.val (.ref b), .val (.int 45), .val (.int 0), .val (.int nn), .val (.int 45), .val (.int 1)] [.int 1])) _
    refine XS.iloadN X0.here hx rfl (hB d20_9) rfl ?_
    refine XS.icmpNo X0.here hx rfl (hB d20_10) rfl (tlt (t1 : (1 : Int32) < nn)).2.1 ?_
    refine XS.aloadN X0.here hx rfl (hB d20_13) rfl rfl ?_
    refine XS.iload X0.here hx rfl (hB d20_14) rfl ?_
    refine X0.baloadBytes hx (j := (1 : Int32)) (v := (.int ((d1.toInt8.toInt32).toInt8.toInt32))) (own_cell e0 Arq447.1) (State.isArrayOf_alike hZ.alike Arq447.2.1) Arq447.2.2 hinq447 hatq447 (g := (mkF m 16 #[.val (.ref b), .val (.int 45), .val (.int 0), .val (.int nn), .val (.int 45), .val (.int 1)] [.int 1, .ref b])) rfl rfl (hB d20_16) _ ?_
    refine XS.iload X0.here hx rfl (hB d20_17) rfl ?_
    refine XS.icmpYes X0.here hx rfl (pc0 := 19) (pc' := 25) rfl (hB d20_19) rfl (feq (fun q_ => m1 ((own_lb45 (hu _ (own_mem gd1)) (hL.2.2.2 _ (own_mem gd1))).mp q_) : ¬ (((d1.toInt8.toInt32).toInt8.toInt32) = (45 : Int32)))).2 (by decide) (by decide) ?_
    refine XS.iinc X0.here hx rfl (hB d20_25) rfl (l' := #[.val (.ref b), .val (.int 45), .val (.int 0), .val (.int nn), .val (.int 45), .val (.int 2)]) rfl ?_
    refine XS.goto X0.here hx rfl (pc0 := 28) (pc' := 7) rfl (hB d20_28) (by decide) (by decide) ?_
    refine XS.iload X0.here hx rfl (hB d20_7) rfl ?_
    refine XS.iloadN X0.here hx rfl (hB d20_9) rfl ?_
    refine XS.icmpNo X0.here hx rfl (hB d20_10) rfl (tlt (t2 : (2 : Int32) < nn)).2.1 ?_
    refine XS.aloadN X0.here hx rfl (hB d20_13) rfl rfl ?_
    refine XS.iload X0.here hx rfl (hB d20_14) rfl ?_
    refine X0.baloadBytes hx (j := (2 : Int32)) (v := (.int ((d2.toInt8.toInt32).toInt8.toInt32))) (own_cell e0 Arq448.1) (State.isArrayOf_alike hZ.alike Arq448.2.1) Arq448.2.2 hinq448 hatq448 (g := (mkF m 16 #[.val (.ref b), .val (.int 45), .val (.int 0), .val (.int nn), .val (.int 45), .val (.int 2)] [.int 2, .ref b])) rfl rfl (hB d20_16) _ ?_
    refine XS.iload X0.here hx rfl (hB d20_17) rfl ?_
    show Steps _ _ _ (s₁.setTop (mkF m 19 #[.val (.ref b), .val (.int 45), .val (.int 0), .val (.int nn), .val (.int 45), .val (.int 2)] [.int 45, (.int ((d2.toInt8.toInt32).toInt8.toInt32))])) _
    refine XS.icmpYes X0.here hx rfl (pc0 := 19) (pc' := 25) rfl (hB d20_19) rfl (feq (fun q_ => m2 ((own_lb45 (hu _ (own_mem gd2)) (hL.2.2.2 _ (own_mem gd2))).mp q_) : ¬ (((d2.toInt8.toInt32).toInt8.toInt32) = (45 : Int32)))).2 (by decide) (by decide) ?_
    refine XS.iinc X0.here hx rfl (hB d20_25) rfl (l' := #[.val (.ref b), .val (.int 45), .val (.int 0), .val (.int nn), .val (.int 45), .val (.int 3)]) rfl ?_
    refine XS.goto X0.here hx rfl (pc0 := 28) (pc' := 7) rfl (hB d20_28) (by decide) (by decide) ?_
    refine XS.iload X0.here hx rfl (hB d20_7) rfl ?_
    refine XS.iloadN X0.here hx rfl (hB d20_9) rfl ?_
    refine XS.icmpYes X0.here hx rfl (pc0 := 10) (pc' := 31) rfl (hB d20_10) rfl (flt (te : ¬ ((3 : Int32) < nn))).2.1 (by decide) (by decide) ?_
    refine XS.iconst X0.here hx rfl (hB d20_31) ?_
    exact retOut X0 hx Bd.returns rfl (Or.inl ⟨rfl, Or.inl rfl, _, rfl⟩) (hB d20_32) hr
  · show QicL Z G1 fm b kb z vs cd cs nn h0 n0 _ s₁.heap _
    rw [e0]
    exact ⟨(-1 : Int32), rfl, N0, rfl, hrs⟩
theorem rmicL_m4 (l : Launch) (Z : State) (a0 : Array Value) (G1 : Int32) (fm : Value) (hG : Glob Z a0 G1 fm) (ws : List Jvm.Cond) (b : Addr) (kb : ClassId) (z : Int32) (vs : List Value) (cd : Int32) (cs : List Int32) (nn : Int32) (h0 : Heap) (n0 : Nat) (Z0 : n0 ≤ h0.size) (X00 : Old Z n0 h0) (V_b : Arv Z h0 b kb .byte z vs (.int 0)) (hL : cd = 0 ∧ z = Int32.ofNat cs.length ∧ vs = cs.map own_lb ∧ ∀ c ∈ cs, ¬ (255 : Int32) < c) (hn : cs.length < 5) (hu : ∀ c ∈ cs, own_u16 c) (en : nn = Int32.ofNat cs.length) (nz : (0 : Int32) < nn) (d0 : Int32) (gd0 : cs[0]? = some d0) (t0 : (0 : Int32) < nn) (d1 : Int32) (gd1 : cs[1]? = some d1) (t1 : (1 : Int32) < nn) (d2 : Int32) (gd2 : cs[2]? = some d2) (t2 : (2 : Int32) < nn) (d3 : Int32) (gd3 : cs[3]? = some d3) (t3 : (3 : Int32) < nn) (m0 : ¬ d0 = (45 : Int32)) (m1 : ¬ d1 = (45 : Int32)) (m2 : ¬ d2 = (45 : Int32)) (m3 : ¬ d3 = (45 : Int32)) (te : ¬ ((4 : Int32) < nn)) (hrs : own_rs cs (-1 : Int32)) :
    Met l Z h0 y20 jdk_43_method_23_code 6 (some .int) ws (Room.mk 0 0 0 0) #[.ref b, .int 45, .int 0, .int nn] (QicL Z G1 fm b kb z vs cd cs nn h0 n0) := by
  obtain ⟨hw, O_cs, P_cs, O_as, O_hi, O_lo, O_fm, R_fm⟩ := id hG
  have W := @own_W _ _ hw
  refine own_go "java/lang/StringLatin1" rfl (plainFor_of_name pn_java_lang_StringLatin1) ?_
  intro p e s m below meth c s₁ Bd hx hby hml hown hnm X0 e0 hZ
  have hB := @hb _ _ hby
  have N0 := Fr.nil n0
  have s0_ := own_sL 0 hL hn hu (i := (0 : Int32)) rfl gd0
  have s1_ := own_sL 1 hL hn hu (i := (1 : Int32)) rfl gd1
  have s2_ := own_sL 2 hL hn hu (i := (2 : Int32)) rfl gd2
  have s3_ := own_sL 3 hL hn hu (i := (3 : Int32)) rfl gd3
  obtain ⟨clq449, Arq449, qaq449, Sq449, Nq449, Hq449, Gq449⟩ := id V_b
  have hinq449 := inb_of (j := (0 : Int32)) Sq449 ⟨s0_.1, s0_.2.1⟩
  have hatq449 := Has.at (v := (.int ((d0.toInt8.toInt32).toInt8.toInt32))) Hq449 hinq449 s0_.2.2.1
  obtain ⟨clq450, Arq450, qaq450, Sq450, Nq450, Hq450, Gq450⟩ := id V_b
  have hinq450 := inb_of (j := (1 : Int32)) Sq450 ⟨s1_.1, s1_.2.1⟩
  have hatq450 := Has.at (v := (.int ((d1.toInt8.toInt32).toInt8.toInt32))) Hq450 hinq450 s1_.2.2.1
  obtain ⟨clq451, Arq451, qaq451, Sq451, Nq451, Hq451, Gq451⟩ := id V_b
  have hinq451 := inb_of (j := (2 : Int32)) Sq451 ⟨s2_.1, s2_.2.1⟩
  have hatq451 := Has.at (v := (.int ((d2.toInt8.toInt32).toInt8.toInt32))) Hq451 hinq451 s2_.2.2.1
  obtain ⟨clq452, Arq452, qaq452, Sq452, Nq452, Hq452, Gq452⟩ := id V_b
  have hinq452 := inb_of (j := (3 : Int32)) Sq452 ⟨s3_.1, s3_.2.1⟩
  have hatq452 := Has.at (v := (.int ((d3.toInt8.toInt32).toInt8.toInt32))) Hq452 hinq452 s3_.2.2.1
  obtain ⟨fs, hr, hrun, hended, hW, hsame⟩ := X0.leave (v := some (.int (-1))) (fun h => by rw [Bd.returns] at h; cases h)
  refine ⟨_, _, castTop (ef_jdk_43_method_23_code_RIII m b (45 : Int32) (0 : Int32) nn) ?_, hrun, hended, _, _, rfl, ?_, ⟨_, rfl⟩, hW, hsame.mono (own_ble rfl) (own_ble rfl)⟩
  · show Steps _ _ _ (s₁.setTop (mkF m 0 #[.val (.ref b), .val (.int 45), .val (.int 0), .val (.int nn), .unset, .unset] [])) _
    refine XS.iloadN X0.here hx rfl (hB d20_0) rfl ?_
    refine XS.i2b X0.here hx rfl (hB d20_1) rfl ?_
    refine XS.istore X0.here hx rfl (hB d20_2) rfl (l' := #[.val (.ref b), .val (.int 45), .val (.int 0), .val (.int nn), .val (.int 45), .unset]) rfl ?_
    refine XS.iloadN X0.here hx rfl (hB d20_4) rfl ?_
    refine XS.istore X0.here hx rfl (hB d20_5) rfl (l' := #[.val (.ref b), .val (.int 45), .val (.int 0), .val (.int nn), .val (.int 45), .val (.int 0)]) rfl ?_
    refine XS.iload X0.here hx rfl (hB d20_7) rfl ?_
    refine XS.iloadN X0.here hx rfl (hB d20_9) rfl ?_
    refine XS.icmpNo X0.here hx rfl (hB d20_10) rfl (tlt (t0 : (0 : Int32) < nn)).2.1 ?_
    refine XS.aloadN X0.here hx rfl (hB d20_13) rfl rfl ?_
    refine XS.iload X0.here hx rfl (hB d20_14) rfl ?_
    refine X0.baloadBytes hx (j := (0 : Int32)) (v := (.int ((d0.toInt8.toInt32).toInt8.toInt32))) (own_cell e0 Arq449.1) (State.isArrayOf_alike hZ.alike Arq449.2.1) Arq449.2.2 hinq449 hatq449 (g := (mkF m 16 #[.val (.ref b), .val (.int 45), .val (.int 0), .val (.int nn), .val (.int 45), .val (.int 0)] [.int 0, .ref b])) rfl rfl (hB d20_16) _ ?_
    refine XS.iload X0.here hx rfl (hB d20_17) rfl ?_
    refine XS.icmpYes X0.here hx rfl (pc0 := 19) (pc' := 25) rfl (hB d20_19) rfl (feq (fun q_ => m0 ((own_lb45 (hu _ (own_mem gd0)) (hL.2.2.2 _ (own_mem gd0))).mp q_) : ¬ (((d0.toInt8.toInt32).toInt8.toInt32) = (45 : Int32)))).2 (by decide) (by decide) ?_
    refine XS.iinc X0.here hx rfl (hB d20_25) rfl (l' := #[.val (.ref b), .val (.int 45), .val (.int 0), .val (.int nn), .val (.int 45), .val (.int 1)]) rfl ?_
    refine XS.goto X0.here hx rfl (pc0 := 28) (pc' := 7) rfl (hB d20_28) (by decide) (by decide) ?_
    refine XS.iload X0.here hx rfl (hB d20_7) rfl ?_
    show Steps _ _ _ (s₁.setTop (mkF m 9 #[.val (.ref b), .val (.int 45), .val (.int 0), .val (.int nn), .val (.int 45), .val (.int 1)] [.int 1])) _
    refine XS.iloadN X0.here hx rfl (hB d20_9) rfl ?_
    refine XS.icmpNo X0.here hx rfl (hB d20_10) rfl (tlt (t1 : (1 : Int32) < nn)).2.1 ?_
    refine XS.aloadN X0.here hx rfl (hB d20_13) rfl rfl ?_
    refine XS.iload X0.here hx rfl (hB d20_14) rfl ?_
    refine X0.baloadBytes hx (j := (1 : Int32)) (v := (.int ((d1.toInt8.toInt32).toInt8.toInt32))) (own_cell e0 Arq450.1) (State.isArrayOf_alike hZ.alike Arq450.2.1) Arq450.2.2 hinq450 hatq450 (g := (mkF m 16 #[.val (.ref b), .val (.int 45), .val (.int 0), .val (.int nn), .val (.int 45), .val (.int 1)] [.int 1, .ref b])) rfl rfl (hB d20_16) _ ?_
    refine XS.iload X0.here hx rfl (hB d20_17) rfl ?_
    refine XS.icmpYes X0.here hx rfl (pc0 := 19) (pc' := 25) rfl (hB d20_19) rfl (feq (fun q_ => m1 ((own_lb45 (hu _ (own_mem gd1)) (hL.2.2.2 _ (own_mem gd1))).mp q_) : ¬ (((d1.toInt8.toInt32).toInt8.toInt32) = (45 : Int32)))).2 (by decide) (by decide) ?_
    refine XS.iinc X0.here hx rfl (hB d20_25) rfl (l' := #[.val (.ref b), .val (.int 45), .val (.int 0), .val (.int nn), .val (.int 45), .val (.int 2)]) rfl ?_
    refine XS.goto X0.here hx rfl (pc0 := 28) (pc' := 7) rfl (hB d20_28) (by decide) (by decide) ?_
    refine XS.iload X0.here hx rfl (hB d20_7) rfl ?_
    refine XS.iloadN X0.here hx rfl (hB d20_9) rfl ?_
    refine XS.icmpNo X0.here hx rfl (hB d20_10) rfl (tlt (t2 : (2 : Int32) < nn)).2.1 ?_
    refine XS.aloadN X0.here hx rfl (hB d20_13) rfl rfl ?_
    refine XS.iload X0.here hx rfl (hB d20_14) rfl ?_
    refine X0.baloadBytes hx (j := (2 : Int32)) (v := (.int ((d2.toInt8.toInt32).toInt8.toInt32))) (own_cell e0 Arq451.1) (State.isArrayOf_alike hZ.alike Arq451.2.1) Arq451.2.2 hinq451 hatq451 (g := (mkF m 16 #[.val (.ref b), .val (.int 45), .val (.int 0), .val (.int nn), .val (.int 45), .val (.int 2)] [.int 2, .ref b])) rfl rfl (hB d20_16) _ ?_
    refine XS.iload X0.here hx rfl (hB d20_17) rfl ?_
    show Steps _ _ _ (s₁.setTop (mkF m 19 #[.val (.ref b), .val (.int 45), .val (.int 0), .val (.int nn), .val (.int 45), .val (.int 2)] [.int 45, (.int ((d2.toInt8.toInt32).toInt8.toInt32))])) _
    refine XS.icmpYes X0.here hx rfl (pc0 := 19) (pc' := 25) rfl (hB d20_19) rfl (feq (fun q_ => m2 ((own_lb45 (hu _ (own_mem gd2)) (hL.2.2.2 _ (own_mem gd2))).mp q_) : ¬ (((d2.toInt8.toInt32).toInt8.toInt32) = (45 : Int32)))).2 (by decide) (by decide) ?_
    refine XS.iinc X0.here hx rfl (hB d20_25) rfl (l' := #[.val (.ref b), .val (.int 45), .val (.int 0), .val (.int nn), .val (.int 45), .val (.int 3)]) rfl ?_
    refine XS.goto X0.here hx rfl (pc0 := 28) (pc' := 7) rfl (hB d20_28) (by decide) (by decide) ?_
    refine XS.iload X0.here hx rfl (hB d20_7) rfl ?_
    refine XS.iloadN X0.here hx rfl (hB d20_9) rfl ?_
    refine XS.icmpNo X0.here hx rfl (hB d20_10) rfl (tlt (t3 : (3 : Int32) < nn)).2.1 ?_
    refine XS.aloadN X0.here hx rfl (hB d20_13) rfl rfl ?_
    refine XS.iload X0.here hx rfl (hB d20_14) rfl ?_
    refine X0.baloadBytes hx (j := (3 : Int32)) (v := (.int ((d3.toInt8.toInt32).toInt8.toInt32))) (own_cell e0 Arq452.1) (State.isArrayOf_alike hZ.alike Arq452.2.1) Arq452.2.2 hinq452 hatq452 (g := (mkF m 16 #[.val (.ref b), .val (.int 45), .val (.int 0), .val (.int nn), .val (.int 45), .val (.int 3)] [.int 3, .ref b])) rfl rfl (hB d20_16) _ ?_
    refine XS.iload X0.here hx rfl (hB d20_17) rfl ?_
    refine XS.icmpYes X0.here hx rfl (pc0 := 19) (pc' := 25) rfl (hB d20_19) rfl (feq (fun q_ => m3 ((own_lb45 (hu _ (own_mem gd3)) (hL.2.2.2 _ (own_mem gd3))).mp q_) : ¬ (((d3.toInt8.toInt32).toInt8.toInt32) = (45 : Int32)))).2 (by decide) (by decide) ?_
    refine XS.iinc X0.here hx rfl (hB d20_25) rfl (l' := #[.val (.ref b), .val (.int 45), .val (.int 0), .val (.int nn), .val (.int 45), .val (.int 4)]) rfl ?_
    refine XS.goto X0.here hx rfl (pc0 := 28) (pc' := 7) rfl (hB d20_28) (by decide) (by decide) ?_
    refine XS.iload X0.here hx rfl (hB d20_7) rfl ?_
    refine XS.iloadN X0.here hx rfl (hB d20_9) rfl ?_
    refine XS.icmpYes X0.here hx rfl (pc0 := 10) (pc' := 31) rfl (hB d20_10) rfl (flt (te : ¬ ((4 : Int32) < nn))).2.1 (by decide) (by decide) ?_
    show Steps _ _ _ (s₁.setTop (mkF m 31 #[.val (.ref b), .val (.int 45), .val (.int 0), .val (.int nn), .val (.int 45), .val (.int 4)] [])) _
    refine XS.iconst X0.here hx rfl (hB d20_31) ?_
    exact retOut X0 hx Bd.returns rfl (Or.inl ⟨rfl, Or.inl rfl, _, rfl⟩) (hB d20_32) hr
  · show QicL Z G1 fm b kb z vs cd cs nn h0 n0 _ s₁.heap _
    rw [e0]
    exact ⟨(-1 : Int32), rfl, N0, rfl, hrs⟩
theorem rmicL (l : Launch) (Z : State) (a0 : Array Value) (G1 : Int32) (fm : Value) (hG : Glob Z a0 G1 fm) (ws : List Jvm.Cond) (b : Addr) (kb : ClassId) (z : Int32) (vs : List Value) (cd : Int32) (cs : List Int32) (nn : Int32) (h0 : Heap) (n0 : Nat) (Z0 : n0 ≤ h0.size) (X00 : Old Z n0 h0) (V_b : Arv Z h0 b kb .byte z vs (.int 0)) (hL : cd = 0 ∧ z = Int32.ofNat cs.length ∧ vs = cs.map own_lb ∧ ∀ c ∈ cs, ¬ (255 : Int32) < c) (hn : cs.length < 5) (hu : ∀ c ∈ cs, own_u16 c) (en : nn = Int32.ofNat cs.length) (nz : (0 : Int32) < nn) :
    Met l Z h0 y20 jdk_43_method_23_code 6 (some .int) ws (Room.mk 0 0 0 0) #[.ref b, .int 45, .int 0, .int nn] (QicL Z G1 fm b kb z vs cd cs nn h0 n0) := by
  match cs, hL, hn, hu, en, nz with
  | [], hL, hn, hu, en, nz => exact absurd nz (by rw [en]; decide)
  | [e0], hL, hn, hu, en, nz =>
    by_cases q0 : e0 = (45 : Int32)
    · exact rmicL_h0 l Z a0 G1 fm hG ws b kb z vs cd [e0] nn h0 n0 Z0 X00 V_b hL hn hu en nz e0 rfl (by rw [en]; exact (by decide : (0 : Int32) < Int32.ofNat 1)) q0 (Or.inr ⟨own_h1 q0, by decide⟩)
    exact rmicL_m1 l Z a0 G1 fm hG ws b kb z vs cd [e0] nn h0 n0 Z0 X00 V_b hL hn hu en nz e0 rfl (by rw [en]; exact (by decide : (0 : Int32) < Int32.ofNat 1)) q0 (by rw [en]; exact (by decide : ¬ ((1 : Int32) < Int32.ofNat 1))) (Or.inl ⟨own_h0 q0, rfl⟩)
  | [e0, e1], hL, hn, hu, en, nz =>
    by_cases q0 : e0 = (45 : Int32)
    · exact rmicL_h0 l Z a0 G1 fm hG ws b kb z vs cd [e0, e1] nn h0 n0 Z0 X00 V_b hL hn hu en nz e0 rfl (by rw [en]; exact (by decide : (0 : Int32) < Int32.ofNat 2)) q0 (Or.inr ⟨own_h1 q0, by decide⟩)
    by_cases q1 : e1 = (45 : Int32)
    · exact rmicL_h1 l Z a0 G1 fm hG ws b kb z vs cd [e0, e1] nn h0 n0 Z0 X00 V_b hL hn hu en nz e0 rfl (by rw [en]; exact (by decide : (0 : Int32) < Int32.ofNat 2)) e1 rfl (by rw [en]; exact (by decide : (1 : Int32) < Int32.ofNat 2)) q0 q1 (Or.inr ⟨(own_h0 q0).trans (own_h1 q1), by decide⟩)
    exact rmicL_m2 l Z a0 G1 fm hG ws b kb z vs cd [e0, e1] nn h0 n0 Z0 X00 V_b hL hn hu en nz e0 rfl (by rw [en]; exact (by decide : (0 : Int32) < Int32.ofNat 2)) e1 rfl (by rw [en]; exact (by decide : (1 : Int32) < Int32.ofNat 2)) q0 q1 (by rw [en]; exact (by decide : ¬ ((2 : Int32) < Int32.ofNat 2))) (Or.inl ⟨(own_h0 q0).trans (own_h0 q1), rfl⟩)
  | [e0, e1, e2], hL, hn, hu, en, nz =>
    by_cases q0 : e0 = (45 : Int32)
    · exact rmicL_h0 l Z a0 G1 fm hG ws b kb z vs cd [e0, e1, e2] nn h0 n0 Z0 X00 V_b hL hn hu en nz e0 rfl (by rw [en]; exact (by decide : (0 : Int32) < Int32.ofNat 3)) q0 (Or.inr ⟨own_h1 q0, by decide⟩)
    by_cases q1 : e1 = (45 : Int32)
    · exact rmicL_h1 l Z a0 G1 fm hG ws b kb z vs cd [e0, e1, e2] nn h0 n0 Z0 X00 V_b hL hn hu en nz e0 rfl (by rw [en]; exact (by decide : (0 : Int32) < Int32.ofNat 3)) e1 rfl (by rw [en]; exact (by decide : (1 : Int32) < Int32.ofNat 3)) q0 q1 (Or.inr ⟨(own_h0 q0).trans (own_h1 q1), by decide⟩)
    by_cases q2 : e2 = (45 : Int32)
    · exact rmicL_h2 l Z a0 G1 fm hG ws b kb z vs cd [e0, e1, e2] nn h0 n0 Z0 X00 V_b hL hn hu en nz e0 rfl (by rw [en]; exact (by decide : (0 : Int32) < Int32.ofNat 3)) e1 rfl (by rw [en]; exact (by decide : (1 : Int32) < Int32.ofNat 3)) e2 rfl (by rw [en]; exact (by decide : (2 : Int32) < Int32.ofNat 3)) q0 q1 q2 (Or.inr ⟨(own_h0 q0).trans ((own_h0 q1).trans (own_h1 q2)), by decide⟩)
    exact rmicL_m3 l Z a0 G1 fm hG ws b kb z vs cd [e0, e1, e2] nn h0 n0 Z0 X00 V_b hL hn hu en nz e0 rfl (by rw [en]; exact (by decide : (0 : Int32) < Int32.ofNat 3)) e1 rfl (by rw [en]; exact (by decide : (1 : Int32) < Int32.ofNat 3)) e2 rfl (by rw [en]; exact (by decide : (2 : Int32) < Int32.ofNat 3)) q0 q1 q2 (by rw [en]; exact (by decide : ¬ ((3 : Int32) < Int32.ofNat 3))) (Or.inl ⟨(own_h0 q0).trans ((own_h0 q1).trans (own_h0 q2)), rfl⟩)
  | [e0, e1, e2, e3], hL, hn, hu, en, nz =>
    by_cases q0 : e0 = (45 : Int32)
    · exact rmicL_h0 l Z a0 G1 fm hG ws b kb z vs cd [e0, e1, e2, e3] nn h0 n0 Z0 X00 V_b hL hn hu en nz e0 rfl (by rw [en]; exact (by decide : (0 : Int32) < Int32.ofNat 4)) q0 (Or.inr ⟨own_h1 q0, by decide⟩)
    by_cases q1 : e1 = (45 : Int32)
    · exact rmicL_h1 l Z a0 G1 fm hG ws b kb z vs cd [e0, e1, e2, e3] nn h0 n0 Z0 X00 V_b hL hn hu en nz e0 rfl (by rw [en]; exact (by decide : (0 : Int32) < Int32.ofNat 4)) e1 rfl (by rw [en]; exact (by decide : (1 : Int32) < Int32.ofNat 4)) q0 q1 (Or.inr ⟨(own_h0 q0).trans (own_h1 q1), by decide⟩)
    by_cases q2 : e2 = (45 : Int32)
    · exact rmicL_h2 l Z a0 G1 fm hG ws b kb z vs cd [e0, e1, e2, e3] nn h0 n0 Z0 X00 V_b hL hn hu en nz e0 rfl (by rw [en]; exact (by decide : (0 : Int32) < Int32.ofNat 4)) e1 rfl (by rw [en]; exact (by decide : (1 : Int32) < Int32.ofNat 4)) e2 rfl (by rw [en]; exact (by decide : (2 : Int32) < Int32.ofNat 4)) q0 q1 q2 (Or.inr ⟨(own_h0 q0).trans ((own_h0 q1).trans (own_h1 q2)), by decide⟩)
    by_cases q3 : e3 = (45 : Int32)
    · exact rmicL_h3 l Z a0 G1 fm hG ws b kb z vs cd [e0, e1, e2, e3] nn h0 n0 Z0 X00 V_b hL hn hu en nz e0 rfl (by rw [en]; exact (by decide : (0 : Int32) < Int32.ofNat 4)) e1 rfl (by rw [en]; exact (by decide : (1 : Int32) < Int32.ofNat 4)) e2 rfl (by rw [en]; exact (by decide : (2 : Int32) < Int32.ofNat 4)) e3 rfl (by rw [en]; exact (by decide : (3 : Int32) < Int32.ofNat 4)) q0 q1 q2 q3 (Or.inr ⟨(own_h0 q0).trans ((own_h0 q1).trans ((own_h0 q2).trans (own_h1 q3))), by decide⟩)
    exact rmicL_m4 l Z a0 G1 fm hG ws b kb z vs cd [e0, e1, e2, e3] nn h0 n0 Z0 X00 V_b hL hn hu en nz e0 rfl (by rw [en]; exact (by decide : (0 : Int32) < Int32.ofNat 4)) e1 rfl (by rw [en]; exact (by decide : (1 : Int32) < Int32.ofNat 4)) e2 rfl (by rw [en]; exact (by decide : (2 : Int32) < Int32.ofNat 4)) e3 rfl (by rw [en]; exact (by decide : (3 : Int32) < Int32.ofNat 4)) q0 q1 q2 q3 (by rw [en]; exact (by decide : ¬ ((4 : Int32) < Int32.ofNat 4))) (Or.inl ⟨(own_h0 q0).trans ((own_h0 q1).trans ((own_h0 q2).trans (own_h0 q3))), rfl⟩)
  | e0 :: e1 :: e2 :: e3 :: e4 :: t, hL, hn, hu, en, nz => exact absurd hn (by simp only [List.length_cons]; omega)
theorem d21_0 : decode jdk_52_method_48_code 0 = .ok (.iload_n 2, 1) := by decide +kernel
theorem d21_1 : decode jdk_52_method_48_code 1 = .ok (.istore 4, 2) := by decide +kernel
theorem d21_3 : decode jdk_52_method_48_code 3 = .ok (.iload 4, 2) := by decide +kernel
theorem d21_5 : decode jdk_52_method_48_code 5 = .ok (.iload_n 3, 1) := by decide +kernel
theorem d21_6 : decode jdk_52_method_48_code 6 = .ok (.if_icmp .ge 22, 3) := by decide +kernel
theorem d21_9 : decode jdk_52_method_48_code 9 = .ok (.aload_n 0, 1) := by decide +kernel
theorem d21_10 : decode jdk_52_method_48_code 10 = .ok (.iload 4, 2) := by decide +kernel
theorem d21_12 : decode jdk_52_method_48_code 12 = .ok (.invokestatic 71, 3) := by decide +kernel
theorem d21_15 : decode jdk_52_method_48_code 15 = .ok (.iload_n 1, 1) := by decide +kernel
theorem d21_16 : decode jdk_52_method_48_code 16 = .ok (.if_icmp .ne 6, 3) := by decide +kernel
theorem d21_19 : decode jdk_52_method_48_code 19 = .ok (.iload 4, 2) := by decide +kernel
theorem d21_21 : decode jdk_52_method_48_code 21 = .ok (.ireturn, 1) := by decide +kernel
theorem d21_22 : decode jdk_52_method_48_code 22 = .ok (.iinc 4 1, 3) := by decide +kernel
theorem d21_25 : decode jdk_52_method_48_code 25 = .ok (.goto (-22), 3) := by decide +kernel
theorem d21_28 : decode jdk_52_method_48_code 28 = .ok (.iconst (-1), 1) := by decide +kernel
theorem d21_29 : decode jdk_52_method_48_code 29 = .ok (.ireturn, 1) := by decide +kernel
def QicW (Z : State) (G1 : Int32) (fm : Value) (b : Addr) (kb : ClassId) (z : Int32) (vs : List Value) (cs : List Int32) (nn : Int32) (h0 : Heap) (n0 : Nat) (v : Option Value) (h : Heap) (L : List Loc) : Prop := ∃ r : Int32, v = some (.int r) ∧ Fr n0 L ∧ h = h0 ∧ own_rs cs r
theorem ef_jdk_52_method_48_code_RIII (m : MethodId) (x0 : Addr) (x1 : Int32) (x2 : Int32) (x3 : Int32) : entryFrame m #[.ref x0, .int x1, .int x2, .int x3] 5 = mkF m 0 #[.val (.ref x0), .val (.int x1), .val (.int x2), .val (.int x3), .unset] [] := by first | (simp [entryFrame, mkF, argsToLocals, Value.category]; done) | rfl
abbrev y21 : MethodName := ⟨"java/lang/StringUTF16", "indexOfCharUnsafe", "([BIII)I"⟩
theorem rmicW_h0 (l : Launch) (Z : State) (a0 : Array Value) (G1 : Int32) (fm : Value) (hG : Glob Z a0 G1 fm) (ws : List Jvm.Cond) (b : Addr) (kb : ClassId) (z : Int32) (vs : List Value) (cs : List Int32) (nn : Int32) (h0 : Heap) (n0 : Nat) (Z0 : n0 ≤ h0.size) (X00 : Old Z n0 h0) (V_b : Arv Z h0 b kb .byte z vs (.int 0)) (hz : z = Int32.ofNat (2 * cs.length)) (hv : vs = own_wb cs) (hn : cs.length < 5) (hu : ∀ c ∈ cs, own_u16 c) (en : nn = Int32.ofNat cs.length) (nz : (0 : Int32) < nn) (d0 : Int32) (gd0 : cs[0]? = some d0) (t0 : (0 : Int32) < nn) (ek : d0 = (45 : Int32)) (hrs : own_rs cs (0 : Int32)) :
    Met l Z h0 y21 jdk_52_method_48_code 5 (some .int) ws (Room.mk 1 0 0 13) #[.ref b, .int 45, .int 0, .int nn] (QicW Z G1 fm b kb z vs cs nn h0 n0) := by
  obtain ⟨hw, O_cs, P_cs, O_as, O_hi, O_lo, O_fm, R_fm⟩ := id hG
  have W := @own_W _ _ hw
  refine own_go "java/lang/StringUTF16" rfl (plainFor_of_name pn_java_lang_StringUTF16) ?_
  intro p e s m below meth c s₁ Bd hx hby hml hown hnm X0 e0 hZ
  have hB := @hb _ _ hby
  have N0 := Fr.nil n0
  -- pc 12: java/lang/StringUTF16.getChar
  obtain ⟨_, _, ⟨T453, L453, k453, n453⟩, -, X453, ⟨Lc453, hQ453, l453, y453, z453⟩, st453⟩ := Jvm.LawKit.callS X0 hx (y := y0) hown (mvT hZ (W 103 rfl)) (mvT hZ (W 104 rfl)) (mvT hZ (W 76 rfl)) (mvT hZ (W 105 rfl)) (by decide) (backOf (W := 0) (rmgch l Z a0 G1 fm hG [] b kb z vs (0 : Int32) cs 0 d0 h0 n0 Z0 X00 V_b hz hv hn hu rfl gd0) hZ (W 105 rfl) (W 76 rfl) (by decide) (by decide)) (g := (mkF m 12 #[.val (.ref b), .val (.int 45), .val (.int 0), .val (.int nn), .val (.int 0)] [.int 0, .ref b])) rfl (by rw [hml]; rfl) (argsL := [.ref b, .int 0]) (rest := []) (lenOf pd___BI_C rfl) rfl (by show 2 * 0 + _ ≤ _; exact Nat.le_of_eq rfl) (hB d21_12) (fun _ _ => ⟨rfl, e0, (by decide : 0 + 0 ≤ _), (by decide : 0 + 0 ≤ _)⟩)
  dsimp only [Pt.U, Pt.locs, Pt.cells, Pt.slots] at X453 l453 y453 z453 st453 hQ453
  subst l453 y453 z453
  obtain ⟨rfl, N453q, eq453⟩ := hQ453
  have N453 := Fr.app N0 N453q
  obtain ⟨fs, hr, hrun, hended, hW, hsame⟩ := X453.leave (v := some (.int 0)) (fun h => by rw [Bd.returns] at h; cases h)
  refine ⟨_, _, castTop (ef_jdk_52_method_48_code_RIII m b (45 : Int32) (0 : Int32) nn) ?_, hrun, hended, _, _, rfl, ?_, ⟨_, rfl⟩, hW, hsame.mono (own_ble rfl) (own_ble rfl)⟩
  · show Steps _ _ _ (s₁.setTop (mkF m 0 #[.val (.ref b), .val (.int 45), .val (.int 0), .val (.int nn), .unset] [])) _
    refine XS.iloadN X0.here hx rfl (hB d21_0) rfl ?_
    refine XS.istore X0.here hx rfl (hB d21_1) rfl (l' := #[.val (.ref b), .val (.int 45), .val (.int 0), .val (.int nn), .val (.int 0)]) rfl ?_
    refine XS.iload X0.here hx rfl (hB d21_3) rfl ?_
    refine XS.iloadN X0.here hx rfl (hB d21_5) rfl ?_
    refine XS.icmpNo X0.here hx rfl (hB d21_6) rfl (tlt (t0 : (0 : Int32) < nn)).2.1 ?_
    refine XS.aloadN X0.here hx rfl (hB d21_9) rfl rfl ?_
    refine XS.iload X0.here hx rfl (hB d21_10) rfl ?_
    refine st453 _ ?_
    show Steps _ _ _ (T453.setTop (mkF m 15 #[.val (.ref b), .val (.int 45), .val (.int 0), .val (.int nn), .val (.int 0)] [.int d0])) _
    refine XS.iloadN X453.here hx rfl (hB d21_15) rfl ?_
    refine XS.icmpNo X453.here hx rfl (hB d21_16) rfl (teq (ek : d0 = (45 : Int32))).2 ?_
    refine XS.iload X453.here hx rfl (hB d21_19) rfl ?_
    exact retOut X453 hx Bd.returns rfl (Or.inl ⟨rfl, Or.inl rfl, _, rfl⟩) (hB d21_21) hr
  · show QicW Z G1 fm b kb z vs cs nn h0 n0 _ T453.heap _
    rw [eq453]
    exact ⟨(0 : Int32), rfl, N453, rfl, hrs⟩
theorem rmicW_h1 (l : Launch) (Z : State) (a0 : Array Value) (G1 : Int32) (fm : Value) (hG : Glob Z a0 G1 fm) (ws : List Jvm.Cond) (b : Addr) (kb : ClassId) (z : Int32) (vs : List Value) (cs : List Int32) (nn : Int32) (h0 : Heap) (n0 : Nat) (Z0 : n0 ≤ h0.size) (X00 : Old Z n0 h0) (V_b : Arv Z h0 b kb .byte z vs (.int 0)) (hz : z = Int32.ofNat (2 * cs.length)) (hv : vs = own_wb cs) (hn : cs.length < 5) (hu : ∀ c ∈ cs, own_u16 c) (en : nn = Int32.ofNat cs.length) (nz : (0 : Int32) < nn) (d0 : Int32) (gd0 : cs[0]? = some d0) (t0 : (0 : Int32) < nn) (d1 : Int32) (gd1 : cs[1]? = some d1) (t1 : (1 : Int32) < nn) (m0 : ¬ d0 = (45 : Int32)) (ek : d1 = (45 : Int32)) (hrs : own_rs cs (1 : Int32)) :
    Met l Z h0 y21 jdk_52_method_48_code 5 (some .int) ws (Room.mk 1 0 0 13) #[.ref b, .int 45, .int 0, .int nn] (QicW Z G1 fm b kb z vs cs nn h0 n0) := by
  obtain ⟨hw, O_cs, P_cs, O_as, O_hi, O_lo, O_fm, R_fm⟩ := id hG
  have W := @own_W _ _ hw
  refine own_go "java/lang/StringUTF16" rfl (plainFor_of_name pn_java_lang_StringUTF16) ?_
  intro p e s m below meth c s₁ Bd hx hby hml hown hnm X0 e0 hZ
  have hB := @hb _ _ hby
  have N0 := Fr.nil n0
  -- pc 12: java/lang/StringUTF16.getChar
  obtain ⟨_, _, ⟨T454, L454, k454, n454⟩, -, X454, ⟨Lc454, hQ454, l454, y454, z454⟩, st454⟩ := Jvm.LawKit.callS X0 hx (y := y0) hown (mvT hZ (W 103 rfl)) (mvT hZ (W 104 rfl)) (mvT hZ (W 76 rfl)) (mvT hZ (W 105 rfl)) (by decide) (backOf (W := 0) (rmgch l Z a0 G1 fm hG [] b kb z vs (0 : Int32) cs 0 d0 h0 n0 Z0 X00 V_b hz hv hn hu rfl gd0) hZ (W 105 rfl) (W 76 rfl) (by decide) (by decide)) (g := (mkF m 12 #[.val (.ref b), .val (.int 45), .val (.int 0), .val (.int nn), .val (.int 0)] [.int 0, .ref b])) rfl (by rw [hml]; rfl) (argsL := [.ref b, .int 0]) (rest := []) (lenOf pd___BI_C rfl) rfl (by show 2 * 0 + _ ≤ _; exact Nat.le_of_eq rfl) (hB d21_12) (fun _ _ => ⟨rfl, e0, (by decide : 0 + 0 ≤ _), (by decide : 0 + 0 ≤ _)⟩)
  dsimp only [Pt.U, Pt.locs, Pt.cells, Pt.slots] at X454 l454 y454 z454 st454 hQ454
  subst l454 y454 z454
  obtain ⟨rfl, N454q, eq454⟩ := hQ454
  have N454 := Fr.app N0 N454q
  -- pc 12: java/lang/StringUTF16.getChar
  obtain ⟨_, _, ⟨T455, L455, k455, n455⟩, -, X455, ⟨Lc455, hQ455, l455, y455, z455⟩, st455⟩ := Jvm.LawKit.callS X454 hx (y := y0) hown (mvT hZ (W 103 rfl)) (mvT hZ (W 104 rfl)) (mvT hZ (W 76 rfl)) (mvT hZ (W 105 rfl)) (by decide) (backOf (W := 0) (rmgch l Z a0 G1 fm hG [] b kb z vs (1 : Int32) cs 1 d1 h0 n0 Z0 X00 V_b hz hv hn hu rfl gd1) hZ (W 105 rfl) (W 76 rfl) (by decide) (by decide)) (g := (mkF m 12 #[.val (.ref b), .val (.int 45), .val (.int 0), .val (.int nn), .val (.int 1)] [.int 1, .ref b])) rfl (by rw [hml]; rfl) (argsL := [.ref b, .int 1]) (rest := []) (lenOf pd___BI_C rfl) rfl (by show 2 * 0 + _ ≤ _; exact Nat.le_of_eq rfl) (hB d21_12) (fun _ _ => ⟨rfl, eq454, (by decide : 0 + 0 ≤ _), (by decide : 0 + 0 ≤ _)⟩)
  dsimp only [Pt.U, Pt.locs, Pt.cells, Pt.slots] at X455 l455 y455 z455 st455 hQ455
  subst l455 y455 z455
  obtain ⟨rfl, N455q, eq455⟩ := hQ455
  have N455 := Fr.app N454 N455q
  obtain ⟨fs, hr, hrun, hended, hW, hsame⟩ := X455.leave (v := some (.int 1)) (fun h => by rw [Bd.returns] at h; cases h)
  refine ⟨_, _, castTop (ef_jdk_52_method_48_code_RIII m b (45 : Int32) (0 : Int32) nn) ?_, hrun, hended, _, _, rfl, ?_, ⟨_, rfl⟩, hW, hsame.mono (own_ble rfl) (own_ble rfl)⟩
  · show Steps _ _ _ (s₁.setTop (mkF m 0 #[.val (.ref b), .val (.int 45), .val (.int 0), .val (.int nn), .unset] [])) _
    refine XS.iloadN X0.here hx rfl (hB d21_0) rfl ?_
    refine XS.istore X0.here hx rfl (hB d21_1) rfl (l' := #[.val (.ref b), .val (.int 45), .val (.int 0), .val (.int nn), .val (.int 0)]) rfl ?_
    refine XS.iload X0.here hx rfl (hB d21_3) rfl ?_
    refine XS.iloadN X0.here hx rfl (hB d21_5) rfl ?_
    refine XS.icmpNo X0.here hx rfl (hB d21_6) rfl (tlt (t0 : (0 : Int32) < nn)).2.1 ?_
    refine XS.aloadN X0.here hx rfl (hB d21_9) rfl rfl ?_
    refine XS.iload X0.here hx rfl (hB d21_10) rfl ?_
    refine st454 _ ?_
    show Steps _ _ _ (T454.setTop (mkF m 15 #[.val (.ref b), .val (.int 45), .val (.int 0), .val (.int nn), .val (.int 0)] [.int d0])) _
    refine XS.iloadN X454.here hx rfl (hB d21_15) rfl ?_
    refine XS.icmpYes X454.here hx rfl (pc0 := 16) (pc' := 22) rfl (hB d21_16) rfl (feq (m0 : ¬ (d0 = (45 : Int32)))).2 (by decide) (by decide) ?_
    refine XS.iinc X454.here hx rfl (hB d21_22) rfl (l' := #[.val (.ref b), .val (.int 45), .val (.int 0), .val (.int nn), .val (.int 1)]) rfl ?_
    refine XS.goto X454.here hx rfl (pc0 := 25) (pc' := 3) rfl (hB d21_25) (by decide) (by decide) ?_
    refine XS.iload X454.here hx rfl (hB d21_3) rfl ?_
    refine XS.iloadN X454.here hx rfl (hB d21_5) rfl ?_
    refine XS.icmpNo X454.here hx rfl (hB d21_6) rfl (tlt (t1 : (1 : Int32) < nn)).2.1 ?_
    refine XS.aloadN X454.here hx rfl (hB d21_9) rfl rfl ?_
    refine XS.iload X454.here hx rfl (hB d21_10) rfl ?_
    refine st455 _ ?_
    show Steps _ _ _ (T455.setTop (mkF m 15 #[.val (.ref b), .val (.int 45), .val (.int 0), .val (.int nn), .val (.int 1)] [.int d1])) _
    refine XS.iloadN X455.here hx rfl (hB d21_15) rfl ?_
    refine XS.icmpNo X455.here hx rfl (hB d21_16) rfl (teq (ek : d1 = (45 : Int32))).2 ?_
    refine XS.iload X455.here hx rfl (hB d21_19) rfl ?_
    exact retOut X455 hx Bd.returns rfl (Or.inl ⟨rfl, Or.inl rfl, _, rfl⟩) (hB d21_21) hr
  · show QicW Z G1 fm b kb z vs cs nn h0 n0 _ T455.heap _
    rw [eq455]
    exact ⟨(1 : Int32), rfl, N455, rfl, hrs⟩
theorem rmicW_h2 (l : Launch) (Z : State) (a0 : Array Value) (G1 : Int32) (fm : Value) (hG : Glob Z a0 G1 fm) (ws : List Jvm.Cond) (b : Addr) (kb : ClassId) (z : Int32) (vs : List Value) (cs : List Int32) (nn : Int32) (h0 : Heap) (n0 : Nat) (Z0 : n0 ≤ h0.size) (X00 : Old Z n0 h0) (V_b : Arv Z h0 b kb .byte z vs (.int 0)) (hz : z = Int32.ofNat (2 * cs.length)) (hv : vs = own_wb cs) (hn : cs.length < 5) (hu : ∀ c ∈ cs, own_u16 c) (en : nn = Int32.ofNat cs.length) (nz : (0 : Int32) < nn) (d0 : Int32) (gd0 : cs[0]? = some d0) (t0 : (0 : Int32) < nn) (d1 : Int32) (gd1 : cs[1]? = some d1) (t1 : (1 : Int32) < nn) (d2 : Int32) (gd2 : cs[2]? = some d2) (t2 : (2 : Int32) < nn) (m0 : ¬ d0 = (45 : Int32)) (m1 : ¬ d1 = (45 : Int32)) (ek : d2 = (45 : Int32)) (hrs : own_rs cs (2 : Int32)) :
    Met l Z h0 y21 jdk_52_method_48_code 5 (some .int) ws (Room.mk 1 0 0 13) #[.ref b, .int 45, .int 0, .int nn] (QicW Z G1 fm b kb z vs cs nn h0 n0) := by
  obtain ⟨hw, O_cs, P_cs, O_as, O_hi, O_lo, O_fm, R_fm⟩ := id hG
  have W := @own_W _ _ hw
  refine own_go "java/lang/StringUTF16" rfl (plainFor_of_name pn_java_lang_StringUTF16) ?_
  intro p e s m below meth c s₁ Bd hx hby hml hown hnm X0 e0 hZ
  have hB := @hb _ _ hby
  have N0 := Fr.nil n0
  -- pc 12: java/lang/StringUTF16.getChar
  obtain ⟨_, _, ⟨T456, L456, k456, n456⟩, -, X456, ⟨Lc456, hQ456, l456, y456, z456⟩, st456⟩ := Jvm.LawKit.callS X0 hx (y := y0) hown (mvT hZ (W 103 rfl)) (mvT hZ (W 104 rfl)) (mvT hZ (W 76 rfl)) (mvT hZ (W 105 rfl)) (by decide) (backOf (W := 0) (rmgch l Z a0 G1 fm hG [] b kb z vs (0 : Int32) cs 0 d0 h0 n0 Z0 X00 V_b hz hv hn hu rfl gd0) hZ (W 105 rfl) (W 76 rfl) (by decide) (by decide)) (g := (mkF m 12 #[.val (.ref b), .val (.int 45), .val (.int 0), .val (.int nn), .val (.int 0)] [.int 0, .ref b])) rfl (by rw [hml]; rfl) (argsL := [.ref b, .int 0]) (rest := []) (lenOf pd___BI_C rfl) rfl (by show 2 * 0 + _ ≤ _; exact Nat.le_of_eq rfl) (hB d21_12) (fun _ _ => ⟨rfl, e0, (by decide : 0 + 0 ≤ _), (by decide : 0 + 0 ≤ _)⟩)
  dsimp only [Pt.U, Pt.locs, Pt.cells, Pt.slots] at X456 l456 y456 z456 st456 hQ456
  subst l456 y456 z456
  obtain ⟨rfl, N456q, eq456⟩ := hQ456
  have N456 := Fr.app N0 N456q
  -- pc 12: java/lang/StringUTF16.getChar
  obtain ⟨_, _, ⟨T457, L457, k457, n457⟩, -, X457, ⟨Lc457, hQ457, l457, y457, z457⟩, st457⟩ := Jvm.LawKit.callS X456 hx (y := y0) hown (mvT hZ (W 103 rfl)) (mvT hZ (W 104 rfl)) (mvT hZ (W 76 rfl)) (mvT hZ (W 105 rfl)) (by decide) (backOf (W := 0) (rmgch l Z a0 G1 fm hG [] b kb z vs (1 : Int32) cs 1 d1 h0 n0 Z0 X00 V_b hz hv hn hu rfl gd1) hZ (W 105 rfl) (W 76 rfl) (by decide) (by decide)) (g := (mkF m 12 #[.val (.ref b), .val (.int 45), .val (.int 0), .val (.int nn), .val (.int 1)] [.int 1, .ref b])) rfl (by rw [hml]; rfl) (argsL := [.ref b, .int 1]) (rest := []) (lenOf pd___BI_C rfl) rfl (by show 2 * 0 + _ ≤ _; exact Nat.le_of_eq rfl) (hB d21_12) (fun _ _ => ⟨rfl, eq456, (by decide : 0 + 0 ≤ _), (by decide : 0 + 0 ≤ _)⟩)
  dsimp only [Pt.U, Pt.locs, Pt.cells, Pt.slots] at X457 l457 y457 z457 st457 hQ457
  subst l457 y457 z457
  obtain ⟨rfl, N457q, eq457⟩ := hQ457
  have N457 := Fr.app N456 N457q
  -- pc 12: java/lang/StringUTF16.getChar
  obtain ⟨_, _, ⟨T458, L458, k458, n458⟩, -, X458, ⟨Lc458, hQ458, l458, y458, z458⟩, st458⟩ := Jvm.LawKit.callS X457 hx (y := y0) hown (mvT hZ (W 103 rfl)) (mvT hZ (W 104 rfl)) (mvT hZ (W 76 rfl)) (mvT hZ (W 105 rfl)) (by decide) (backOf (W := 0) (rmgch l Z a0 G1 fm hG [] b kb z vs (2 : Int32) cs 2 d2 h0 n0 Z0 X00 V_b hz hv hn hu rfl gd2) hZ (W 105 rfl) (W 76 rfl) (by decide) (by decide)) (g := (mkF m 12 #[.val (.ref b), .val (.int 45), .val (.int 0), .val (.int nn), .val (.int 2)] [.int 2, .ref b])) rfl (by rw [hml]; rfl) (argsL := [.ref b, .int 2]) (rest := []) (lenOf pd___BI_C rfl) rfl (by show 2 * 0 + _ ≤ _; exact Nat.le_of_eq rfl) (hB d21_12) (fun _ _ => ⟨rfl, eq457, (by decide : 0 + 0 ≤ _), (by decide : 0 + 0 ≤ _)⟩)
  dsimp only [Pt.U, Pt.locs, Pt.cells, Pt.slots] at X458 l458 y458 z458 st458 hQ458
  subst l458 y458 z458
  obtain ⟨rfl, N458q, eq458⟩ := hQ458
  have N458 := Fr.app N457 N458q
  obtain ⟨fs, hr, hrun, hended, hW, hsame⟩ := X458.leave (v := some (.int 2)) (fun h => by rw [Bd.returns] at h; cases h)
  refine ⟨_, _, castTop (ef_jdk_52_method_48_code_RIII m b (45 : Int32) (0 : Int32) nn) ?_, hrun, hended, _, _, rfl, ?_, ⟨_, rfl⟩, hW, hsame.mono (own_ble rfl) (own_ble rfl)⟩
  · show Steps _ _ _ (s₁.setTop (mkF m 0 #[.val (.ref b), .val (.int 45), .val (.int 0), .val (.int nn), .unset] [])) _
    refine XS.iloadN X0.here hx rfl (hB d21_0) rfl ?_
    refine XS.istore X0.here hx rfl (hB d21_1) rfl (l' := #[.val (.ref b), .val (.int 45), .val (.int 0), .val (.int nn), .val (.int 0)]) rfl ?_
    refine XS.iload X0.here hx rfl (hB d21_3) rfl ?_
    refine XS.iloadN X0.here hx rfl (hB d21_5) rfl ?_
    refine XS.icmpNo X0.here hx rfl (hB d21_6) rfl (tlt (t0 : (0 : Int32) < nn)).2.1 ?_
    refine XS.aloadN X0.here hx rfl (hB d21_9) rfl rfl ?_
    refine XS.iload X0.here hx rfl (hB d21_10) rfl ?_
    refine st456 _ ?_
    show Steps _ _ _ (T456.setTop (mkF m 15 #[.val (.ref b), .val (.int 45), .val (.int 0), .val (.int nn), .val (.int 0)] [.int d0])) _
    refine XS.iloadN X456.here hx rfl (hB d21_15) rfl ?_
    refine XS.icmpYes X456.here hx rfl (pc0 := 16) (pc' := 22) rfl (hB d21_16) rfl (feq (m0 : ¬ (d0 = (45 : Int32)))).2 (by decide) (by decide) ?_
    refine XS.iinc X456.here hx rfl (hB d21_22) rfl (l' := #[.val (.ref b), .val (.int 45), .val (.int 0), .val (.int nn), .val (.int 1)]) rfl ?_
    refine XS.goto X456.here hx rfl (pc0 := 25) (pc' := 3) rfl (hB d21_25) (by decide) (by decide) ?_
    refine XS.iload X456.here hx rfl (hB d21_3) rfl ?_
    refine XS.iloadN X456.here hx rfl (hB d21_5) rfl ?_
    refine XS.icmpNo X456.here hx rfl (hB d21_6) rfl (tlt (t1 : (1 : Int32) < nn)).2.1 ?_
    refine XS.aloadN X456.here hx rfl (hB d21_9) rfl rfl ?_
    refine XS.iload X456.here hx rfl (hB d21_10) rfl ?_
    refine st457 _ ?_
    show Steps _ _ _ (T457.setTop (mkF m 15 #[.val (.ref b), .val (.int 45), .val (.int 0), .val (.int nn), .val (.int 1)] [.int d1])) _
    refine XS.iloadN X457.here hx rfl (hB d21_15) rfl ?_
    refine XS.icmpYes X457.here hx rfl (pc0 := 16) (pc' := 22) rfl (hB d21_16) rfl (feq (m1 : ¬ (d1 = (45 : Int32)))).2 (by decide) (by decide) ?_
    refine XS.iinc X457.here hx rfl (hB d21_22) rfl (l' := #[.val (.ref b), .val (.int 45), .val (.int 0), .val (.int nn), .val (.int 2)]) rfl ?_
    refine XS.goto X457.here hx rfl (pc0 := 25) (pc' := 3) rfl (hB d21_25) (by decide) (by decide) ?_
    refine XS.iload X457.here hx rfl (hB d21_3) rfl ?_
    refine XS.iloadN X457.here hx rfl (hB d21_5) rfl ?_
    refine XS.icmpNo X457.here hx rfl (hB d21_6) rfl (tlt (t2 : (2 : Int32) < nn)).2.1 ?_
    refine XS.aloadN X457.here hx rfl (hB d21_9) rfl rfl ?_
    refine XS.iload X457.here hx rfl (hB d21_10) rfl ?_
    refine st458 _ ?_
    show Steps _ _ _ (T458.setTop (mkF m 15 #[.val (.ref b), .val (.int 45), .val (.int 0), .val (.int nn), .val (.int 2)] [.int d2])) _
    refine XS.iloadN X458.here hx rfl (hB d21_15) rfl ?_
    refine XS.icmpNo X458.here hx rfl (hB d21_16) rfl (teq (ek : d2 = (45 : Int32))).2 ?_
    refine XS.iload X458.here hx rfl (hB d21_19) rfl ?_
    exact retOut X458 hx Bd.returns rfl (Or.inl ⟨rfl, Or.inl rfl, _, rfl⟩) (hB d21_21) hr
  · show QicW Z G1 fm b kb z vs cs nn h0 n0 _ T458.heap _
    rw [eq458]
    exact ⟨(2 : Int32), rfl, N458, rfl, hrs⟩
theorem rmicW_h3 (l : Launch) (Z : State) (a0 : Array Value) (G1 : Int32) (fm : Value) (hG : Glob Z a0 G1 fm) (ws : List Jvm.Cond) (b : Addr) (kb : ClassId) (z : Int32) (vs : List Value) (cs : List Int32) (nn : Int32) (h0 : Heap) (n0 : Nat) (Z0 : n0 ≤ h0.size) (X00 : Old Z n0 h0) (V_b : Arv Z h0 b kb .byte z vs (.int 0)) (hz : z = Int32.ofNat (2 * cs.length)) (hv : vs = own_wb cs) (hn : cs.length < 5) (hu : ∀ c ∈ cs, own_u16 c) (en : nn = Int32.ofNat cs.length) (nz : (0 : Int32) < nn) (d0 : Int32) (gd0 : cs[0]? = some d0) (t0 : (0 : Int32) < nn) (d1 : Int32) (gd1 : cs[1]? = some d1) (t1 : (1 : Int32) < nn) (d2 : Int32) (gd2 : cs[2]? = some d2) (t2 : (2 : Int32) < nn) (d3 : Int32) (gd3 : cs[3]? = some d3) (t3 : (3 : Int32) < nn) (m0 : ¬ d0 = (45 : Int32)) (m1 : ¬ d1 = (45 : Int32)) (m2 : ¬ d2 = (45 : Int32)) (ek : d3 = (45 : Int32)) (hrs : own_rs cs (3 : Int32)) :
    Met l Z h0 y21 jdk_52_method_48_code 5 (some .int) ws (Room.mk 1 0 0 13) #[.ref b, .int 45, .int 0, .int nn] (QicW Z G1 fm b kb z vs cs nn h0 n0) := by
  obtain ⟨hw, O_cs, P_cs, O_as, O_hi, O_lo, O_fm, R_fm⟩ := id hG
  have W := @own_W _ _ hw
  refine own_go "java/lang/StringUTF16" rfl (plainFor_of_name pn_java_lang_StringUTF16) ?_
  intro p e s m below meth c s₁ Bd hx hby hml hown hnm X0 e0 hZ
  have hB := @hb _ _ hby
  have N0 := Fr.nil n0
  -- pc 12: java/lang/StringUTF16.getChar
  obtain ⟨_, _, ⟨T459, L459, k459, n459⟩, -, X459, ⟨Lc459, hQ459, l459, y459, z459⟩, st459⟩ := Jvm.LawKit.callS X0 hx (y := y0) hown (mvT hZ (W 103 rfl)) (mvT hZ (W 104 rfl)) (mvT hZ (W 76 rfl)) (mvT hZ (W 105 rfl)) (by decide) (backOf (W := 0) (rmgch l Z a0 G1 fm hG [] b kb z vs (0 : Int32) cs 0 d0 h0 n0 Z0 X00 V_b hz hv hn hu rfl gd0) hZ (W 105 rfl) (W 76 rfl) (by decide) (by decide)) (g := (mkF m 12 #[.val (.ref b), .val (.int 45), .val (.int 0), .val (.int nn), .val (.int 0)] [.int 0, .ref b])) rfl (by rw [hml]; rfl) (argsL := [.ref b, .int 0]) (rest := []) (lenOf pd___BI_C rfl) rfl (by show 2 * 0 + _ ≤ _; exact Nat.le_of_eq rfl) (hB d21_12) (fun _ _ => ⟨rfl, e0, (by decide : 0 + 0 ≤ _), (by decide : 0 + 0 ≤ _)⟩)
  dsimp only [Pt.U, Pt.locs, Pt.cells, Pt.slots] at X459 l459 y459 z459 st459 hQ459
  subst l459 y459 z459
  obtain ⟨rfl, N459q, eq459⟩ := hQ459
  have N459 := Fr.app N0 N459q
  -- pc 12: java/lang/StringUTF16.getChar
  obtain ⟨_, _, ⟨T460, L460, k460, n460⟩, -, X460, ⟨Lc460, hQ460, l460, y460, z460⟩, st460⟩ := Jvm.LawKit.callS X459 hx (y := y0) hown (mvT hZ (W 103 rfl)) (mvT hZ (W 104 rfl)) (mvT hZ (W 76 rfl)) (mvT hZ (W 105 rfl)) (by decide) (backOf (W := 0) (rmgch l Z a0 G1 fm hG [] b kb z vs (1 : Int32) cs 1 d1 h0 n0 Z0 X00 V_b hz hv hn hu rfl gd1) hZ (W 105 rfl) (W 76 rfl) (by decide) (by decide)) (g := (mkF m 12 #[.val (.ref b), .val (.int 45), .val (.int 0), .val (.int nn), .val (.int 1)] [.int 1, .ref b])) rfl (by rw [hml]; rfl) (argsL := [.ref b, .int 1]) (rest := []) (lenOf pd___BI_C rfl) rfl (by show 2 * 0 + _ ≤ _; exact Nat.le_of_eq rfl) (hB d21_12) (fun _ _ => ⟨rfl, eq459, (by decide : 0 + 0 ≤ _), (by decide : 0 + 0 ≤ _)⟩)
  dsimp only [Pt.U, Pt.locs, Pt.cells, Pt.slots] at X460 l460 y460 z460 st460 hQ460
  subst l460 y460 z460
  obtain ⟨rfl, N460q, eq460⟩ := hQ460
  have N460 := Fr.app N459 N460q
  -- pc 12: java/lang/StringUTF16.getChar
  obtain ⟨_, _, ⟨T461, L461, k461, n461⟩, -, X461, ⟨Lc461, hQ461, l461, y461, z461⟩, st461⟩ := Jvm.LawKit.callS X460 hx (y := y0) hown (mvT hZ (W 103 rfl)) (mvT hZ (W 104 rfl)) (mvT hZ (W 76 rfl)) (mvT hZ (W 105 rfl)) (by decide) (backOf (W := 0) (rmgch l Z a0 G1 fm hG [] b kb z vs (2 : Int32) cs 2 d2 h0 n0 Z0 X00 V_b hz hv hn hu rfl gd2) hZ (W 105 rfl) (W 76 rfl) (by decide) (by decide)) (g := (mkF m 12 #[.val (.ref b), .val (.int 45), .val (.int 0), .val (.int nn), .val (.int 2)] [.int 2, .ref b])) rfl (by rw [hml]; rfl) (argsL := [.ref b, .int 2]) (rest := []) (lenOf pd___BI_C rfl) rfl (by show 2 * 0 + _ ≤ _; exact Nat.le_of_eq rfl) (hB d21_12) (fun _ _ => ⟨rfl, eq460, (by decide : 0 + 0 ≤ _), (by decide : 0 + 0 ≤ _)⟩)
  dsimp only [Pt.U, Pt.locs, Pt.cells, Pt.slots] at X461 l461 y461 z461 st461 hQ461
  subst l461 y461 z461
  obtain ⟨rfl, N461q, eq461⟩ := hQ461
  have N461 := Fr.app N460 N461q
  -- pc 12: java/lang/StringUTF16.getChar
  obtain ⟨_, _, ⟨T462, L462, k462, n462⟩, -, X462, ⟨Lc462, hQ462, l462, y462, z462⟩, st462⟩ := Jvm.LawKit.callS X461 hx (y := y0) hown (mvT hZ (W 103 rfl)) (mvT hZ (W 104 rfl)) (mvT hZ (W 76 rfl)) (mvT hZ (W 105 rfl)) (by decide) (backOf (W := 0) (rmgch l Z a0 G1 fm hG [] b kb z vs (3 : Int32) cs 3 d3 h0 n0 Z0 X00 V_b hz hv hn hu rfl gd3) hZ (W 105 rfl) (W 76 rfl) (by decide) (by decide)) (g := (mkF m 12 #[.val (.ref b), .val (.int 45), .val (.int 0), .val (.int nn), .val (.int 3)] [.int 3, .ref b])) rfl (by rw [hml]; rfl) (argsL := [.ref b, .int 3]) (rest := []) (lenOf pd___BI_C rfl) rfl (by show 2 * 0 + _ ≤ _; exact Nat.le_of_eq rfl) (hB d21_12) (fun _ _ => ⟨rfl, eq461, (by decide : 0 + 0 ≤ _), (by decide : 0 + 0 ≤ _)⟩)
  dsimp only [Pt.U, Pt.locs, Pt.cells, Pt.slots] at X462 l462 y462 z462 st462 hQ462
  subst l462 y462 z462
  obtain ⟨rfl, N462q, eq462⟩ := hQ462
  have N462 := Fr.app N461 N462q
  obtain ⟨fs, hr, hrun, hended, hW, hsame⟩ := X462.leave (v := some (.int 3)) (fun h => by rw [Bd.returns] at h; cases h)
  refine ⟨_, _, castTop (ef_jdk_52_method_48_code_RIII m b (45 : Int32) (0 : Int32) nn) ?_, hrun, hended, _, _, rfl, ?_, ⟨_, rfl⟩, hW, hsame.mono (own_ble rfl) (own_ble rfl)⟩
  · show Steps _ _ _ (s₁.setTop (mkF m 0 #[.val (.ref b), .val (.int 45), .val (.int 0), .val (.int nn), .unset] [])) _
    refine XS.iloadN X0.here hx rfl (hB d21_0) rfl ?_
    refine XS.istore X0.here hx rfl (hB d21_1) rfl (l' := #[.val (.ref b), .val (.int 45), .val (.int 0), .val (.int nn), .val (.int 0)]) rfl ?_
    refine XS.iload X0.here hx rfl (hB d21_3) rfl ?_
    refine XS.iloadN X0.here hx rfl (hB d21_5) rfl ?_
    refine XS.icmpNo X0.here hx rfl (hB d21_6) rfl (tlt (t0 : (0 : Int32) < nn)).2.1 ?_
    refine XS.aloadN X0.here hx rfl (hB d21_9) rfl rfl ?_
    refine XS.iload X0.here hx rfl (hB d21_10) rfl ?_
    refine st459 _ ?_
    show Steps _ _ _ (T459.setTop (mkF m 15 #[.val (.ref b), .val (.int 45), .val (.int 0), .val (.int nn), .val (.int 0)] [.int d0])) _
    refine XS.iloadN X459.here hx rfl (hB d21_15) rfl ?_
    refine XS.icmpYes X459.here hx rfl (pc0 := 16) (pc' := 22) rfl (hB d21_16) rfl (feq (m0 : ¬ (d0 = (45 : Int32)))).2 (by decide) (by decide) ?_
    refine XS.iinc X459.here hx rfl (hB d21_22) rfl (l' := #[.val (.ref b), .val (.int 45), .val (.int 0), .val (.int nn), .val (.int 1)]) rfl ?_
    refine XS.goto X459.here hx rfl (pc0 := 25) (pc' := 3) rfl (hB d21_25) (by decide) (by decide) ?_
    refine XS.iload X459.here hx rfl (hB d21_3) rfl ?_
    refine XS.iloadN X459.here hx rfl (hB d21_5) rfl ?_
    refine XS.icmpNo X459.here hx rfl (hB d21_6) rfl (tlt (t1 : (1 : Int32) < nn)).2.1 ?_
    refine XS.aloadN X459.here hx rfl (hB d21_9) rfl rfl ?_
    refine XS.iload X459.here hx rfl (hB d21_10) rfl ?_
    refine st460 _ ?_
    show Steps _ _ _ (T460.setTop (mkF m 15 #[.val (.ref b), .val (.int 45), .val (.int 0), .val (.int nn), .val (.int 1)] [.int d1])) _
    refine XS.iloadN X460.here hx rfl (hB d21_15) rfl ?_
    refine XS.icmpYes X460.here hx rfl (pc0 := 16) (pc' := 22) rfl (hB d21_16) rfl (feq (m1 : ¬ (d1 = (45 : Int32)))).2 (by decide) (by decide) ?_
    refine XS.iinc X460.here hx rfl (hB d21_22) rfl (l' := #[.val (.ref b), .val (.int 45), .val (.int 0), .val (.int nn), .val (.int 2)]) rfl ?_
    refine XS.goto X460.here hx rfl (pc0 := 25) (pc' := 3) rfl (hB d21_25) (by decide) (by decide) ?_
    refine XS.iload X460.here hx rfl (hB d21_3) rfl ?_
    refine XS.iloadN X460.here hx rfl (hB d21_5) rfl ?_
    refine XS.icmpNo X460.here hx rfl (hB d21_6) rfl (tlt (t2 : (2 : Int32) < nn)).2.1 ?_
    refine XS.aloadN X460.here hx rfl (hB d21_9) rfl rfl ?_
    refine XS.iload X460.here hx rfl (hB d21_10) rfl ?_
    refine st461 _ ?_
    show Steps _ _ _ (T461.setTop (mkF m 15 #[.val (.ref b), .val (.int 45), .val (.int 0), .val (.int nn), .val (.int 2)] [.int d2])) _
    refine XS.iloadN X461.here hx rfl (hB d21_15) rfl ?_
    refine XS.icmpYes X461.here hx rfl (pc0 := 16) (pc' := 22) rfl (hB d21_16) rfl (feq (m2 : ¬ (d2 = (45 : Int32)))).2 (by decide) (by decide) ?_
    refine XS.iinc X461.here hx rfl (hB d21_22) rfl (l' := #[.val (.ref b), .val (.int 45), .val (.int 0), .val (.int nn), .val (.int 3)]) rfl ?_
    refine XS.goto X461.here hx rfl (pc0 := 25) (pc' := 3) rfl (hB d21_25) (by decide) (by decide) ?_
    refine XS.iload X461.here hx rfl (hB d21_3) rfl ?_
    refine XS.iloadN X461.here hx rfl (hB d21_5) rfl ?_
    refine XS.icmpNo X461.here hx rfl (hB d21_6) rfl (tlt (t3 : (3 : Int32) < nn)).2.1 ?_
    refine XS.aloadN X461.here hx rfl (hB d21_9) rfl rfl ?_
    refine XS.iload X461.here hx rfl (hB d21_10) rfl ?_
    refine st462 _ ?_
    show Steps _ _ _ (T462.setTop (mkF m 15 #[.val (.ref b), .val (.int 45), .val (.int 0), .val (.int nn), .val (.int 3)] [.int d3])) _
    refine XS.iloadN X462.here hx rfl (hB d21_15) rfl ?_
    refine XS.icmpNo X462.here hx rfl (hB d21_16) rfl (teq (ek : d3 = (45 : Int32))).2 ?_
    refine XS.iload X462.here hx rfl (hB d21_19) rfl ?_
    exact retOut X462 hx Bd.returns rfl (Or.inl ⟨rfl, Or.inl rfl, _, rfl⟩) (hB d21_21) hr
  · show QicW Z G1 fm b kb z vs cs nn h0 n0 _ T462.heap _
    rw [eq462]
    exact ⟨(3 : Int32), rfl, N462, rfl, hrs⟩
theorem rmicW_m1 (l : Launch) (Z : State) (a0 : Array Value) (G1 : Int32) (fm : Value) (hG : Glob Z a0 G1 fm) (ws : List Jvm.Cond) (b : Addr) (kb : ClassId) (z : Int32) (vs : List Value) (cs : List Int32) (nn : Int32) (h0 : Heap) (n0 : Nat) (Z0 : n0 ≤ h0.size) (X00 : Old Z n0 h0) (V_b : Arv Z h0 b kb .byte z vs (.int 0)) (hz : z = Int32.ofNat (2 * cs.length)) (hv : vs = own_wb cs) (hn : cs.length < 5) (hu : ∀ c ∈ cs, own_u16 c) (en : nn = Int32.ofNat cs.length) (nz : (0 : Int32) < nn) (d0 : Int32) (gd0 : cs[0]? = some d0) (t0 : (0 : Int32) < nn) (m0 : ¬ d0 = (45 : Int32)) (te : ¬ ((1 : Int32) < nn)) (hrs : own_rs cs (-1 : Int32)) :
    Met l Z h0 y21 jdk_52_method_48_code 5 (some .int) ws (Room.mk 1 0 0 13) #[.ref b, .int 45, .int 0, .int nn] (QicW Z G1 fm b kb z vs cs nn h0 n0) := by
  obtain ⟨hw, O_cs, P_cs, O_as, O_hi, O_lo, O_fm, R_fm⟩ := id hG
  have W := @own_W _ _ hw
  refine own_go "java/lang/StringUTF16" rfl (plainFor_of_name pn_java_lang_StringUTF16) ?_
  intro p e s m below meth c s₁ Bd hx hby hml hown hnm X0 e0 hZ
  have hB := @hb _ _ hby
  have N0 := Fr.nil n0
  -- pc 12: java/lang/StringUTF16.getChar
  obtain ⟨_, _, ⟨T463, L463, k463, n463⟩, -, X463, ⟨Lc463, hQ463, l463, y463, z463⟩, st463⟩ := Jvm.LawKit.callS X0 hx (y := y0) hown (mvT hZ (W 103 rfl)) (mvT hZ (W 104 rfl)) (mvT hZ (W 76 rfl)) (mvT hZ (W 105 rfl)) (by decide) (backOf (W := 0) (rmgch l Z a0 G1 fm hG [] b kb z vs (0 : Int32) cs 0 d0 h0 n0 Z0 X00 V_b hz hv hn hu rfl gd0) hZ (W 105 rfl) (W 76 rfl) (by decide) (by decide)) (g := (mkF m 12 #[.val (.ref b), .val (.int 45), .val (.int 0), .val (.int nn), .val (.int 0)] [.int 0, .ref b])) rfl (by rw [hml]; rfl) (argsL := [.ref b, .int 0]) (rest := []) (lenOf pd___BI_C rfl) rfl (by show 2 * 0 + _ ≤ _; exact Nat.le_of_eq rfl) (hB d21_12) (fun _ _ => ⟨rfl, e0, (by decide : 0 + 0 ≤ _), (by decide : 0 + 0 ≤ _)⟩)
  dsimp only [Pt.U, Pt.locs, Pt.cells, Pt.slots] at X463 l463 y463 z463 st463 hQ463
  subst l463 y463 z463
  obtain ⟨rfl, N463q, eq463⟩ := hQ463
  have N463 := Fr.app N0 N463q
  obtain ⟨fs, hr, hrun, hended, hW, hsame⟩ := X463.leave (v := some (.int (-1))) (fun h => by rw [Bd.returns] at h; cases h)
  refine ⟨_, _, castTop (ef_jdk_52_method_48_code_RIII m b (45 : Int32) (0 : Int32) nn) ?_, hrun, hended, _, _, rfl, ?_, ⟨_, rfl⟩, hW, hsame.mono (own_ble rfl) (own_ble rfl)⟩
  · show Steps _ _ _ (s₁.setTop (mkF m 0 #[.val (.ref b), .val (.int 45), .val (.int 0), .val (.int nn), .unset] [])) _
    refine XS.iloadN X0.here hx rfl (hB d21_0) rfl ?_
    refine XS.istore X0.here hx rfl (hB d21_1) rfl (l' := #[.val (.ref b), .val (.int 45), .val (.int 0), .val (.int nn), .val (.int 0)]) rfl ?_
    refine XS.iload X0.here hx rfl (hB d21_3) rfl ?_
    refine XS.iloadN X0.here hx rfl (hB d21_5) rfl ?_
    refine XS.icmpNo X0.here hx rfl (hB d21_6) rfl (tlt (t0 : (0 : Int32) < nn)).2.1 ?_
    refine XS.aloadN X0.here hx rfl (hB d21_9) rfl rfl ?_
    refine XS.iload X0.here hx rfl (hB d21_10) rfl ?_
    refine st463 _ ?_
    show Steps _ _ _ (T463.setTop (mkF m 15 #[.val (.ref b), .val (.int 45), .val (.int 0), .val (.int nn), .val (.int 0)] [.int d0])) _
    refine XS.iloadN X463.here hx rfl (hB d21_15) rfl ?_
    refine XS.icmpYes X463.here hx rfl (pc0 := 16) (pc' := 22) rfl (hB d21_16) rfl (feq (m0 : ¬ (d0 = (45 : Int32)))).2 (by decide) (by decide) ?_
    refine XS.iinc X463.here hx rfl (hB d21_22) rfl (l' := #[.val (.ref b), .val (.int 45), .val (.int 0), .val (.int nn), .val (.int 1)]) rfl ?_
    refine XS.goto X463.here hx rfl (pc0 := 25) (pc' := 3) rfl (hB d21_25) (by decide) (by decide) ?_
    refine XS.iload X463.here hx rfl (hB d21_3) rfl ?_
    refine XS.iloadN X463.here hx rfl (hB d21_5) rfl ?_
    refine XS.icmpYes X463.here hx rfl (pc0 := 6) (pc' := 28) rfl (hB d21_6) rfl (flt (te : ¬ ((1 : Int32) < nn))).2.1 (by decide) (by decide) ?_
    refine XS.iconst X463.here hx rfl (hB d21_28) ?_
    exact retOut X463 hx Bd.returns rfl (Or.inl ⟨rfl, Or.inl rfl, _, rfl⟩) (hB d21_29) hr
  · show QicW Z G1 fm b kb z vs cs nn h0 n0 _ T463.heap _
    rw [eq463]
    exact ⟨(-1 : Int32), rfl, N463, rfl, hrs⟩
theorem rmicW_m2 (l : Launch) (Z : State) (a0 : Array Value) (G1 : Int32) (fm : Value) (hG : Glob Z a0 G1 fm) (ws : List Jvm.Cond) (b : Addr) (kb : ClassId) (z : Int32) (vs : List Value) (cs : List Int32) (nn : Int32) (h0 : Heap) (n0 : Nat) (Z0 : n0 ≤ h0.size) (X00 : Old Z n0 h0) (V_b : Arv Z h0 b kb .byte z vs (.int 0)) (hz : z = Int32.ofNat (2 * cs.length)) (hv : vs = own_wb cs) (hn : cs.length < 5) (hu : ∀ c ∈ cs, own_u16 c) (en : nn = Int32.ofNat cs.length) (nz : (0 : Int32) < nn) (d0 : Int32) (gd0 : cs[0]? = some d0) (t0 : (0 : Int32) < nn) (d1 : Int32) (gd1 : cs[1]? = some d1) (t1 : (1 : Int32) < nn) (m0 : ¬ d0 = (45 : Int32)) (m1 : ¬ d1 = (45 : Int32)) (te : ¬ ((2 : Int32) < nn)) (hrs : own_rs cs (-1 : Int32)) :
    Met l Z h0 y21 jdk_52_method_48_code 5 (some .int) ws (Room.mk 1 0 0 13) #[.ref b, .int 45, .int 0, .int nn] (QicW Z G1 fm b kb z vs cs nn h0 n0) := by
  obtain ⟨hw, O_cs, P_cs, O_as, O_hi, O_lo, O_fm, R_fm⟩ := id hG
  have W := @own_W _ _ hw
  refine own_go "java/lang/StringUTF16" rfl (plainFor_of_name pn_java_lang_StringUTF16) ?_
  intro p e s m below meth c s₁ Bd hx hby hml hown hnm X0 e0 hZ
  have hB := @hb _ _ hby
  have N0 := Fr.nil n0
  -- pc 12: java/lang/StringUTF16.getChar
  obtain ⟨_, _, ⟨T464, L464, k464, n464⟩, -, X464, ⟨Lc464, hQ464, l464, y464, z464⟩, st464⟩ := Jvm.LawKit.callS X0 hx (y := y0) hown (mvT hZ (W 103 rfl)) (mvT hZ (W 104 rfl)) (mvT hZ (W 76 rfl)) (mvT hZ (W 105 rfl)) (by decide) (backOf (W := 0) (rmgch l Z a0 G1 fm hG [] b kb z vs (0 : Int32) cs 0 d0 h0 n0 Z0 X00 V_b hz hv hn hu rfl gd0) hZ (W 105 rfl) (W 76 rfl) (by decide) (by decide)) (g := (mkF m 12 #[.val (.ref b), .val (.int 45), .val (.int 0), .val (.int nn), .val (.int 0)] [.int 0, .ref b])) rfl (by rw [hml]; rfl) (argsL := [.ref b, .int 0]) (rest := []) (lenOf pd___BI_C rfl) rfl (by show 2 * 0 + _ ≤ _; exact Nat.le_of_eq rfl) (hB d21_12) (fun _ _ => ⟨rfl, e0, (by decide : 0 + 0 ≤ _), (by decide : 0 + 0 ≤ _)⟩)
  dsimp only [Pt.U, Pt.locs, Pt.cells, Pt.slots] at X464 l464 y464 z464 st464 hQ464
  subst l464 y464 z464
  obtain ⟨rfl, N464q, eq464⟩ := hQ464
  have N464 := Fr.app N0 N464q
  -- pc 12: java/lang/StringUTF16.getChar
  obtain ⟨_, _, ⟨T465, L465, k465, n465⟩, -, X465, ⟨Lc465, hQ465, l465, y465, z465⟩, st465⟩ := Jvm.LawKit.callS X464 hx (y := y0) hown (mvT hZ (W 103 rfl)) (mvT hZ (W 104 rfl)) (mvT hZ (W 76 rfl)) (mvT hZ (W 105 rfl)) (by decide) (backOf (W := 0) (rmgch l Z a0 G1 fm hG [] b kb z vs (1 : Int32) cs 1 d1 h0 n0 Z0 X00 V_b hz hv hn hu rfl gd1) hZ (W 105 rfl) (W 76 rfl) (by decide) (by decide)) (g := (mkF m 12 #[.val (.ref b), .val (.int 45), .val (.int 0), .val (.int nn), .val (.int 1)] [.int 1, .ref b])) rfl (by rw [hml]; rfl) (argsL := [.ref b, .int 1]) (rest := []) (lenOf pd___BI_C rfl) rfl (by show 2 * 0 + _ ≤ _; exact Nat.le_of_eq rfl) (hB d21_12) (fun _ _ => ⟨rfl, eq464, (by decide : 0 + 0 ≤ _), (by decide : 0 + 0 ≤ _)⟩)
  dsimp only [Pt.U, Pt.locs, Pt.cells, Pt.slots] at X465 l465 y465 z465 st465 hQ465
  subst l465 y465 z465
  obtain ⟨rfl, N465q, eq465⟩ := hQ465
  have N465 := Fr.app N464 N465q
  obtain ⟨fs, hr, hrun, hended, hW, hsame⟩ := X465.leave (v := some (.int (-1))) (fun h => by rw [Bd.returns] at h; cases h)
  refine ⟨_, _, castTop (ef_jdk_52_method_48_code_RIII m b (45 : Int32) (0 : Int32) nn) ?_, hrun, hended, _, _, rfl, ?_, ⟨_, rfl⟩, hW, hsame.mono (own_ble rfl) (own_ble rfl)⟩
  · show Steps _ _ _ (s₁.setTop (mkF m 0 #[.val (.ref b), .val (.int 45), .val (.int 0), .val (.int nn), .unset] [])) _
    refine XS.iloadN X0.here hx rfl (hB d21_0) rfl ?_
    refine XS.istore X0.here hx rfl (hB d21_1) rfl (l' := #[.val (.ref b), .val (.int 45), .val (.int 0), .val (.int nn), .val (.int 0)]) rfl ?_
    refine XS.iload X0.here hx rfl (hB d21_3) rfl ?_
    refine XS.iloadN X0.here hx rfl (hB d21_5) rfl ?_
    refine XS.icmpNo X0.here hx rfl (hB d21_6) rfl (tlt (t0 : (0 : Int32) < nn)).2.1 ?_
    refine XS.aloadN X0.here hx rfl (hB d21_9) rfl rfl ?_
    refine XS.iload X0.here hx rfl (hB d21_10) rfl ?_
    refine st464 _ ?_
    show Steps _ _ _ (T464.setTop (mkF m 15 #[.val (.ref b), .val (.int 45), .val (.int 0), .val (.int nn), .val (.int 0)] [.int d0])) _
    refine XS.iloadN X464.here hx rfl (hB d21_15) rfl ?_
    refine XS.icmpYes X464.here hx rfl (pc0 := 16) (pc' := 22) rfl (hB d21_16) rfl (feq (m0 : ¬ (d0 = (45 : Int32)))).2 (by decide) (by decide) ?_
    refine XS.iinc X464.here hx rfl (hB d21_22) rfl (l' := #[.val (.ref b), .val (.int 45), .val (.int 0), .val (.int nn), .val (.int 1)]) rfl ?_
    refine XS.goto X464.here hx rfl (pc0 := 25) (pc' := 3) rfl (hB d21_25) (by decide) (by decide) ?_
    refine XS.iload X464.here hx rfl (hB d21_3) rfl ?_
    refine XS.iloadN X464.here hx rfl (hB d21_5) rfl ?_
    refine XS.icmpNo X464.here hx rfl (hB d21_6) rfl (tlt (t1 : (1 : Int32) < nn)).2.1 ?_
    refine XS.aloadN X464.here hx rfl (hB d21_9) rfl rfl ?_
    refine XS.iload X464.here hx rfl (hB d21_10) rfl ?_
    refine st465 _ ?_
    show Steps _ _ _ (T465.setTop (mkF m 15 #[.val (.ref b), .val (.int 45), .val (.int 0), .val (.int nn), .val (.int 1)] [.int d1])) _
    refine XS.iloadN X465.here hx rfl (hB d21_15) rfl ?_
    refine XS.icmpYes X465.here hx rfl (pc0 := 16) (pc' := 22) rfl (hB d21_16) rfl (feq (m1 : ¬ (d1 = (45 : Int32)))).2 (by decide) (by decide) ?_
    refine XS.iinc X465.here hx rfl (hB d21_22) rfl (l' := #[.val (.ref b), .val (.int 45), .val (.int 0), .val (.int nn), .val (.int 2)]) rfl ?_
    refine XS.goto X465.here hx rfl (pc0 := 25) (pc' := 3) rfl (hB d21_25) (by decide) (by decide) ?_
    refine XS.iload X465.here hx rfl (hB d21_3) rfl ?_
    refine XS.iloadN X465.here hx rfl (hB d21_5) rfl ?_
    refine XS.icmpYes X465.here hx rfl (pc0 := 6) (pc' := 28) rfl (hB d21_6) rfl (flt (te : ¬ ((2 : Int32) < nn))).2.1 (by decide) (by decide) ?_
    refine XS.iconst X465.here hx rfl (hB d21_28) ?_
    exact retOut X465 hx Bd.returns rfl (Or.inl ⟨rfl, Or.inl rfl, _, rfl⟩) (hB d21_29) hr
  · show QicW Z G1 fm b kb z vs cs nn h0 n0 _ T465.heap _
    rw [eq465]
    exact ⟨(-1 : Int32), rfl, N465, rfl, hrs⟩
theorem rmicW_m3 (l : Launch) (Z : State) (a0 : Array Value) (G1 : Int32) (fm : Value) (hG : Glob Z a0 G1 fm) (ws : List Jvm.Cond) (b : Addr) (kb : ClassId) (z : Int32) (vs : List Value) (cs : List Int32) (nn : Int32) (h0 : Heap) (n0 : Nat) (Z0 : n0 ≤ h0.size) (X00 : Old Z n0 h0) (V_b : Arv Z h0 b kb .byte z vs (.int 0)) (hz : z = Int32.ofNat (2 * cs.length)) (hv : vs = own_wb cs) (hn : cs.length < 5) (hu : ∀ c ∈ cs, own_u16 c) (en : nn = Int32.ofNat cs.length) (nz : (0 : Int32) < nn) (d0 : Int32) (gd0 : cs[0]? = some d0) (t0 : (0 : Int32) < nn) (d1 : Int32) (gd1 : cs[1]? = some d1) (t1 : (1 : Int32) < nn) (d2 : Int32) (gd2 : cs[2]? = some d2) (t2 : (2 : Int32) < nn) (m0 : ¬ d0 = (45 : Int32)) (m1 : ¬ d1 = (45 : Int32)) (m2 : ¬ d2 = (45 : Int32)) (te : ¬ ((3 : Int32) < nn)) (hrs : own_rs cs (-1 : Int32)) :
    Met l Z h0 y21 jdk_52_method_48_code 5 (some .int) ws (Room.mk 1 0 0 13) #[.ref b, .int 45, .int 0, .int nn] (QicW Z G1 fm b kb z vs cs nn h0 n0) := by
  obtain ⟨hw, O_cs, P_cs, O_as, O_hi, O_lo, O_fm, R_fm⟩ := id hG
  have W := @own_W _ _ hw
  refine own_go "java/lang/StringUTF16" rfl (plainFor_of_name pn_java_lang_StringUTF16) ?_
  intro p e s m below meth c s₁ Bd hx hby hml hown hnm X0 e0 hZ
  have hB := @hb _ _ hby
  have N0 := Fr.nil n0
  -- pc 12: java/lang/StringUTF16.getChar
  obtain ⟨_, _, ⟨T466, L466, k466, n466⟩, -, X466, ⟨Lc466, hQ466, l466, y466, z466⟩, st466⟩ := Jvm.LawKit.callS X0 hx (y := y0) hown (mvT hZ (W 103 rfl)) (mvT hZ (W 104 rfl)) (mvT hZ (W 76 rfl)) (mvT hZ (W 105 rfl)) (by decide) (backOf (W := 0) (rmgch l Z a0 G1 fm hG [] b kb z vs (0 : Int32) cs 0 d0 h0 n0 Z0 X00 V_b hz hv hn hu rfl gd0) hZ (W 105 rfl) (W 76 rfl) (by decide) (by decide)) (g := (mkF m 12 #[.val (.ref b), .val (.int 45), .val (.int 0), .val (.int nn), .val (.int 0)] [.int 0, .ref b])) rfl (by rw [hml]; rfl) (argsL := [.ref b, .int 0]) (rest := []) (lenOf pd___BI_C rfl) rfl (by show 2 * 0 + _ ≤ _; exact Nat.le_of_eq rfl) (hB d21_12) (fun _ _ => ⟨rfl, e0, (by decide : 0 + 0 ≤ _), (by decide : 0 + 0 ≤ _)⟩)
  dsimp only [Pt.U, Pt.locs, Pt.cells, Pt.slots] at X466 l466 y466 z466 st466 hQ466
  subst l466 y466 z466
  obtain ⟨rfl, N466q, eq466⟩ := hQ466
  have N466 := Fr.app N0 N466q
  -- pc 12: java/lang/StringUTF16.getChar
  obtain ⟨_, _, ⟨T467, L467, k467, n467⟩, -, X467, ⟨Lc467, hQ467, l467, y467, z467⟩, st467⟩ := Jvm.LawKit.callS X466 hx (y := y0) hown (mvT hZ (W 103 rfl)) (mvT hZ (W 104 rfl)) (mvT hZ (W 76 rfl)) (mvT hZ (W 105 rfl)) (by decide) (backOf (W := 0) (rmgch l Z a0 G1 fm hG [] b kb z vs (1 : Int32) cs 1 d1 h0 n0 Z0 X00 V_b hz hv hn hu rfl gd1) hZ (W 105 rfl) (W 76 rfl) (by decide) (by decide)) (g := (mkF m 12 #[.val (.ref b), .val (.int 45), .val (.int 0), .val (.int nn), .val (.int 1)] [.int 1, .ref b])) rfl (by rw [hml]; rfl) (argsL := [.ref b, .int 1]) (rest := []) (lenOf pd___BI_C rfl) rfl (by show 2 * 0 + _ ≤ _; exact Nat.le_of_eq rfl) (hB d21_12) (fun _ _ => ⟨rfl, eq466, (by decide : 0 + 0 ≤ _), (by decide : 0 + 0 ≤ _)⟩)
  dsimp only [Pt.U, Pt.locs, Pt.cells, Pt.slots] at X467 l467 y467 z467 st467 hQ467
  subst l467 y467 z467
  obtain ⟨rfl, N467q, eq467⟩ := hQ467
  have N467 := Fr.app N466 N467q
  -- pc 12: java/lang/StringUTF16.getChar
  obtain ⟨_, _, ⟨T468, L468, k468, n468⟩, -, X468, ⟨Lc468, hQ468, l468, y468, z468⟩, st468⟩ := Jvm.LawKit.callS X467 hx (y := y0) hown (mvT hZ (W 103 rfl)) (mvT hZ (W 104 rfl)) (mvT hZ (W 76 rfl)) (mvT hZ (W 105 rfl)) (by decide) (backOf (W := 0) (rmgch l Z a0 G1 fm hG [] b kb z vs (2 : Int32) cs 2 d2 h0 n0 Z0 X00 V_b hz hv hn hu rfl gd2) hZ (W 105 rfl) (W 76 rfl) (by decide) (by decide)) (g := (mkF m 12 #[.val (.ref b), .val (.int 45), .val (.int 0), .val (.int nn), .val (.int 2)] [.int 2, .ref b])) rfl (by rw [hml]; rfl) (argsL := [.ref b, .int 2]) (rest := []) (lenOf pd___BI_C rfl) rfl (by show 2 * 0 + _ ≤ _; exact Nat.le_of_eq rfl) (hB d21_12) (fun _ _ => ⟨rfl, eq467, (by decide : 0 + 0 ≤ _), (by decide : 0 + 0 ≤ _)⟩)
  dsimp only [Pt.U, Pt.locs, Pt.cells, Pt.slots] at X468 l468 y468 z468 st468 hQ468
  subst l468 y468 z468
  obtain ⟨rfl, N468q, eq468⟩ := hQ468
  have N468 := Fr.app N467 N468q
  obtain ⟨fs, hr, hrun, hended, hW, hsame⟩ := X468.leave (v := some (.int (-1))) (fun h => by rw [Bd.returns] at h; cases h)
  refine ⟨_, _, castTop (ef_jdk_52_method_48_code_RIII m b (45 : Int32) (0 : Int32) nn) ?_, hrun, hended, _, _, rfl, ?_, ⟨_, rfl⟩, hW, hsame.mono (own_ble rfl) (own_ble rfl)⟩
  · show Steps _ _ _ (s₁.setTop (mkF m 0 #[.val (.ref b), .val (.int 45), .val (.int 0), .val (.int nn), .unset] [])) _
    refine XS.iloadN X0.here hx rfl (hB d21_0) rfl ?_
    refine XS.istore X0.here hx rfl (hB d21_1) rfl (l' := #[.val (.ref b), .val (.int 45), .val (.int 0), .val (.int nn), .val (.int 0)]) rfl ?_
    refine XS.iload X0.here hx rfl (hB d21_3) rfl ?_
    refine XS.iloadN X0.here hx rfl (hB d21_5) rfl ?_
    refine XS.icmpNo X0.here hx rfl (hB d21_6) rfl (tlt (t0 : (0 : Int32) < nn)).2.1 ?_
    refine XS.aloadN X0.here hx rfl (hB d21_9) rfl rfl ?_
    refine XS.iload X0.here hx rfl (hB d21_10) rfl ?_
    refine st466 _ ?_
    show Steps _ _ _ (T466.setTop (mkF m 15 #[.val (.ref b), .val (.int 45), .val (.int 0), .val (.int nn), .val (.int 0)] [.int d0])) _
    refine XS.iloadN X466.here hx rfl (hB d21_15) rfl ?_
    refine XS.icmpYes X466.here hx rfl (pc0 := 16) (pc' := 22) rfl (hB d21_16) rfl (feq (m0 : ¬ (d0 = (45 : Int32)))).2 (by decide) (by decide) ?_
    refine XS.iinc X466.here hx rfl (hB d21_22) rfl (l' := #[.val (.ref b), .val (.int 45), .val (.int 0), .val (.int nn), .val (.int 1)]) rfl ?_
    refine XS.goto X466.here hx rfl (pc0 := 25) (pc' := 3) rfl (hB d21_25) (by decide) (by decide) ?_
    refine XS.iload X466.here hx rfl (hB d21_3) rfl ?_
    refine XS.iloadN X466.here hx rfl (hB d21_5) rfl ?_
    refine XS.icmpNo X466.here hx rfl (hB d21_6) rfl (tlt (t1 : (1 : Int32) < nn)).2.1 ?_
    refine XS.aloadN X466.here hx rfl (hB d21_9) rfl rfl ?_
    refine XS.iload X466.here hx rfl (hB d21_10) rfl ?_
    refine st467 _ ?_
    show Steps _ _ _ (T467.setTop (mkF m 15 #[.val (.ref b), .val (.int 45), .val (.int 0), .val (.int nn), .val (.int 1)] [.int d1])) _
    refine XS.iloadN X467.here hx rfl (hB d21_15) rfl ?_
    refine XS.icmpYes X467.here hx rfl (pc0 := 16) (pc' := 22) rfl (hB d21_16) rfl (feq (m1 : ¬ (d1 = (45 : Int32)))).2 (by decide) (by decide) ?_
    refine XS.iinc X467.here hx rfl (hB d21_22) rfl (l' := #[.val (.ref b), .val (.int 45), .val (.int 0), .val (.int nn), .val (.int 2)]) rfl ?_
    refine XS.goto X467.here hx rfl (pc0 := 25) (pc' := 3) rfl (hB d21_25) (by decide) (by decide) ?_
    refine XS.iload X467.here hx rfl (hB d21_3) rfl ?_
    refine XS.iloadN X467.here hx rfl (hB d21_5) rfl ?_
    refine XS.icmpNo X467.here hx rfl (hB d21_6) rfl (tlt (t2 : (2 : Int32) < nn)).2.1 ?_
    refine XS.aloadN X467.here hx rfl (hB d21_9) rfl rfl ?_
    refine XS.iload X467.here hx rfl (hB d21_10) rfl ?_
    refine st468 _ ?_
    show Steps _ _ _ (T468.setTop (mkF m 15 #[.val (.ref b), .val (.int 45), .val (.int 0), .val (.int nn), .val (.int 2)] [.int d2])) _
    refine XS.iloadN X468.here hx rfl (hB d21_15) rfl ?_
    refine XS.icmpYes X468.here hx rfl (pc0 := 16) (pc' := 22) rfl (hB d21_16) rfl (feq (m2 : ¬ (d2 = (45 : Int32)))).2 (by decide) (by decide) ?_
    refine XS.iinc X468.here hx rfl (hB d21_22) rfl (l' := #[.val (.ref b), .val (.int 45), .val (.int 0), .val (.int nn), .val (.int 3)]) rfl ?_
    refine XS.goto X468.here hx rfl (pc0 := 25) (pc' := 3) rfl (hB d21_25) (by decide) (by decide) ?_
    refine XS.iload X468.here hx rfl (hB d21_3) rfl ?_
    refine XS.iloadN X468.here hx rfl (hB d21_5) rfl ?_
    refine XS.icmpYes X468.here hx rfl (pc0 := 6) (pc' := 28) rfl (hB d21_6) rfl (flt (te : ¬ ((3 : Int32) < nn))).2.1 (by decide) (by decide) ?_
    refine XS.iconst X468.here hx rfl (hB d21_28) ?_
    exact retOut X468 hx Bd.returns rfl (Or.inl ⟨rfl, Or.inl rfl, _, rfl⟩) (hB d21_29) hr
  · show QicW Z G1 fm b kb z vs cs nn h0 n0 _ T468.heap _
    rw [eq468]
    exact ⟨(-1 : Int32), rfl, N468, rfl, hrs⟩
theorem rmicW_m4 (l : Launch) (Z : State) (a0 : Array Value) (G1 : Int32) (fm : Value) (hG : Glob Z a0 G1 fm) (ws : List Jvm.Cond) (b : Addr) (kb : ClassId) (z : Int32) (vs : List Value) (cs : List Int32) (nn : Int32) (h0 : Heap) (n0 : Nat) (Z0 : n0 ≤ h0.size) (X00 : Old Z n0 h0) (V_b : Arv Z h0 b kb .byte z vs (.int 0)) (hz : z = Int32.ofNat (2 * cs.length)) (hv : vs = own_wb cs) (hn : cs.length < 5) (hu : ∀ c ∈ cs, own_u16 c) (en : nn = Int32.ofNat cs.length) (nz : (0 : Int32) < nn) (d0 : Int32) (gd0 : cs[0]? = some d0) (t0 : (0 : Int32) < nn) (d1 : Int32) (gd1 : cs[1]? = some d1) (t1 : (1 : Int32) < nn) (d2 : Int32) (gd2 : cs[2]? = some d2) (t2 : (2 : Int32) < nn) (d3 : Int32) (gd3 : cs[3]? = some d3) (t3 : (3 : Int32) < nn) (m0 : ¬ d0 = (45 : Int32)) (m1 : ¬ d1 = (45 : Int32)) (m2 : ¬ d2 = (45 : Int32)) (m3 : ¬ d3 = (45 : Int32)) (te : ¬ ((4 : Int32) < nn)) (hrs : own_rs cs (-1 : Int32)) :
    Met l Z h0 y21 jdk_52_method_48_code 5 (some .int) ws (Room.mk 1 0 0 13) #[.ref b, .int 45, .int 0, .int nn] (QicW Z G1 fm b kb z vs cs nn h0 n0) := by
  obtain ⟨hw, O_cs, P_cs, O_as, O_hi, O_lo, O_fm, R_fm⟩ := id hG
  have W := @own_W _ _ hw
  refine own_go "java/lang/StringUTF16" rfl (plainFor_of_name pn_java_lang_StringUTF16) ?_
  intro p e s m below meth c s₁ Bd hx hby hml hown hnm X0 e0 hZ
  have hB := @hb _ _ hby
  have N0 := Fr.nil n0
  -- pc 12: java/lang/StringUTF16.getChar
  obtain ⟨_, _, ⟨T469, L469, k469, n469⟩, -, X469, ⟨Lc469, hQ469, l469, y469, z469⟩, st469⟩ := Jvm.LawKit.callS X0 hx (y := y0) hown (mvT hZ (W 103 rfl)) (mvT hZ (W 104 rfl)) (mvT hZ (W 76 rfl)) (mvT hZ (W 105 rfl)) (by decide) (backOf (W := 0) (rmgch l Z a0 G1 fm hG [] b kb z vs (0 : Int32) cs 0 d0 h0 n0 Z0 X00 V_b hz hv hn hu rfl gd0) hZ (W 105 rfl) (W 76 rfl) (by decide) (by decide)) (g := (mkF m 12 #[.val (.ref b), .val (.int 45), .val (.int 0), .val (.int nn), .val (.int 0)] [.int 0, .ref b])) rfl (by rw [hml]; rfl) (argsL := [.ref b, .int 0]) (rest := []) (lenOf pd___BI_C rfl) rfl (by show 2 * 0 + _ ≤ _; exact Nat.le_of_eq rfl) (hB d21_12) (fun _ _ => ⟨rfl, e0, (by decide : 0 + 0 ≤ _), (by decide : 0 + 0 ≤ _)⟩)
  dsimp only [Pt.U, Pt.locs, Pt.cells, Pt.slots] at X469 l469 y469 z469 st469 hQ469
  subst l469 y469 z469
  obtain ⟨rfl, N469q, eq469⟩ := hQ469
  have N469 := Fr.app N0 N469q
  -- pc 12: java/lang/StringUTF16.getChar
  obtain ⟨_, _, ⟨T470, L470, k470, n470⟩, -, X470, ⟨Lc470, hQ470, l470, y470, z470⟩, st470⟩ := Jvm.LawKit.callS X469 hx (y := y0) hown (mvT hZ (W 103 rfl)) (mvT hZ (W 104 rfl)) (mvT hZ (W 76 rfl)) (mvT hZ (W 105 rfl)) (by decide) (backOf (W := 0) (rmgch l Z a0 G1 fm hG [] b kb z vs (1 : Int32) cs 1 d1 h0 n0 Z0 X00 V_b hz hv hn hu rfl gd1) hZ (W 105 rfl) (W 76 rfl) (by decide) (by decide)) (g := (mkF m 12 #[.val (.ref b), .val (.int 45), .val (.int 0), .val (.int nn), .val (.int 1)] [.int 1, .ref b])) rfl (by rw [hml]; rfl) (argsL := [.ref b, .int 1]) (rest := []) (lenOf pd___BI_C rfl) rfl (by show 2 * 0 + _ ≤ _; exact Nat.le_of_eq rfl) (hB d21_12) (fun _ _ => ⟨rfl, eq469, (by decide : 0 + 0 ≤ _), (by decide : 0 + 0 ≤ _)⟩)
  dsimp only [Pt.U, Pt.locs, Pt.cells, Pt.slots] at X470 l470 y470 z470 st470 hQ470
  subst l470 y470 z470
  obtain ⟨rfl, N470q, eq470⟩ := hQ470
  have N470 := Fr.app N469 N470q
  -- pc 12: java/lang/StringUTF16.getChar
  obtain ⟨_, _, ⟨T471, L471, k471, n471⟩, -, X471, ⟨Lc471, hQ471, l471, y471, z471⟩, st471⟩ := Jvm.LawKit.callS X470 hx (y := y0) hown (mvT hZ (W 103 rfl)) (mvT hZ (W 104 rfl)) (mvT hZ (W 76 rfl)) (mvT hZ (W 105 rfl)) (by decide) (backOf (W := 0) (rmgch l Z a0 G1 fm hG [] b kb z vs (2 : Int32) cs 2 d2 h0 n0 Z0 X00 V_b hz hv hn hu rfl gd2) hZ (W 105 rfl) (W 76 rfl) (by decide) (by decide)) (g := (mkF m 12 #[.val (.ref b), .val (.int 45), .val (.int 0), .val (.int nn), .val (.int 2)] [.int 2, .ref b])) rfl (by rw [hml]; rfl) (argsL := [.ref b, .int 2]) (rest := []) (lenOf pd___BI_C rfl) rfl (by show 2 * 0 + _ ≤ _; exact Nat.le_of_eq rfl) (hB d21_12) (fun _ _ => ⟨rfl, eq470, (by decide : 0 + 0 ≤ _), (by decide : 0 + 0 ≤ _)⟩)
  dsimp only [Pt.U, Pt.locs, Pt.cells, Pt.slots] at X471 l471 y471 z471 st471 hQ471
  subst l471 y471 z471
  obtain ⟨rfl, N471q, eq471⟩ := hQ471
  have N471 := Fr.app N470 N471q
  -- pc 12: java/lang/StringUTF16.getChar
  obtain ⟨_, _, ⟨T472, L472, k472, n472⟩, -, X472, ⟨Lc472, hQ472, l472, y472, z472⟩, st472⟩ := Jvm.LawKit.callS X471 hx (y := y0) hown (mvT hZ (W 103 rfl)) (mvT hZ (W 104 rfl)) (mvT hZ (W 76 rfl)) (mvT hZ (W 105 rfl)) (by decide) (backOf (W := 0) (rmgch l Z a0 G1 fm hG [] b kb z vs (3 : Int32) cs 3 d3 h0 n0 Z0 X00 V_b hz hv hn hu rfl gd3) hZ (W 105 rfl) (W 76 rfl) (by decide) (by decide)) (g := (mkF m 12 #[.val (.ref b), .val (.int 45), .val (.int 0), .val (.int nn), .val (.int 3)] [.int 3, .ref b])) rfl (by rw [hml]; rfl) (argsL := [.ref b, .int 3]) (rest := []) (lenOf pd___BI_C rfl) rfl (by show 2 * 0 + _ ≤ _; exact Nat.le_of_eq rfl) (hB d21_12) (fun _ _ => ⟨rfl, eq471, (by decide : 0 + 0 ≤ _), (by decide : 0 + 0 ≤ _)⟩)
  dsimp only [Pt.U, Pt.locs, Pt.cells, Pt.slots] at X472 l472 y472 z472 st472 hQ472
  subst l472 y472 z472
  obtain ⟨rfl, N472q, eq472⟩ := hQ472
  have N472 := Fr.app N471 N472q
  obtain ⟨fs, hr, hrun, hended, hW, hsame⟩ := X472.leave (v := some (.int (-1))) (fun h => by rw [Bd.returns] at h; cases h)
  refine ⟨_, _, castTop (ef_jdk_52_method_48_code_RIII m b (45 : Int32) (0 : Int32) nn) ?_, hrun, hended, _, _, rfl, ?_, ⟨_, rfl⟩, hW, hsame.mono (own_ble rfl) (own_ble rfl)⟩
  · show Steps _ _ _ (s₁.setTop (mkF m 0 #[.val (.ref b), .val (.int 45), .val (.int 0), .val (.int nn), .unset] [])) _
    refine XS.iloadN X0.here hx rfl (hB d21_0) rfl ?_
    refine XS.istore X0.here hx rfl (hB d21_1) rfl (l' := #[.val (.ref b), .val (.int 45), .val (.int 0), .val (.int nn), .val (.int 0)]) rfl ?_
    refine XS.iload X0.here hx rfl (hB d21_3) rfl ?_
    refine XS.iloadN X0.here hx rfl (hB d21_5) rfl ?_
    refine XS.icmpNo X0.here hx rfl (hB d21_6) rfl (tlt (t0 : (0 : Int32) < nn)).2.1 ?_
    refine XS.aloadN X0.here hx rfl (hB d21_9) rfl rfl ?_
    refine XS.iload X0.here hx rfl (hB d21_10) rfl ?_
    refine st469 _ ?_
    show Steps _ _ _ (T469.setTop (mkF m 15 #[.val (.ref b), .val (.int 45), .val (.int 0), .val (.int nn), .val (.int 0)] [.int d0])) _
    refine XS.iloadN X469.here hx rfl (hB d21_15) rfl ?_
    refine XS.icmpYes X469.here hx rfl (pc0 := 16) (pc' := 22) rfl (hB d21_16) rfl (feq (m0 : ¬ (d0 = (45 : Int32)))).2 (by decide) (by decide) ?_
    refine XS.iinc X469.here hx rfl (hB d21_22) rfl (l' := #[.val (.ref b), .val (.int 45), .val (.int 0), .val (.int nn), .val (.int 1)]) rfl ?_
    refine XS.goto X469.here hx rfl (pc0 := 25) (pc' := 3) rfl (hB d21_25) (by decide) (by decide) ?_
    refine XS.iload X469.here hx rfl (hB d21_3) rfl ?_
    refine XS.iloadN X469.here hx rfl (hB d21_5) rfl ?_
    refine XS.icmpNo X469.here hx rfl (hB d21_6) rfl (tlt (t1 : (1 : Int32) < nn)).2.1 ?_
    refine XS.aloadN X469.here hx rfl (hB d21_9) rfl rfl ?_
    refine XS.iload X469.here hx rfl (hB d21_10) rfl ?_
    refine st470 _ ?_
    show Steps _ _ _ (T470.setTop (mkF m 15 #[.val (.ref b), .val (.int 45), .val (.int 0), .val (.int nn), .val (.int 1)] [.int d1])) _
    refine XS.iloadN X470.here hx rfl (hB d21_15) rfl ?_
    refine XS.icmpYes X470.here hx rfl (pc0 := 16) (pc' := 22) rfl (hB d21_16) rfl (feq (m1 : ¬ (d1 = (45 : Int32)))).2 (by decide) (by decide) ?_
    refine XS.iinc X470.here hx rfl (hB d21_22) rfl (l' := #[.val (.ref b), .val (.int 45), .val (.int 0), .val (.int nn), .val (.int 2)]) rfl ?_
    refine XS.goto X470.here hx rfl (pc0 := 25) (pc' := 3) rfl (hB d21_25) (by decide) (by decide) ?_
    refine XS.iload X470.here hx rfl (hB d21_3) rfl ?_
    refine XS.iloadN X470.here hx rfl (hB d21_5) rfl ?_
    refine XS.icmpNo X470.here hx rfl (hB d21_6) rfl (tlt (t2 : (2 : Int32) < nn)).2.1 ?_
    refine XS.aloadN X470.here hx rfl (hB d21_9) rfl rfl ?_
    refine XS.iload X470.here hx rfl (hB d21_10) rfl ?_
    refine st471 _ ?_
    show Steps _ _ _ (T471.setTop (mkF m 15 #[.val (.ref b), .val (.int 45), .val (.int 0), .val (.int nn), .val (.int 2)] [.int d2])) _
    refine XS.iloadN X471.here hx rfl (hB d21_15) rfl ?_
    refine XS.icmpYes X471.here hx rfl (pc0 := 16) (pc' := 22) rfl (hB d21_16) rfl (feq (m2 : ¬ (d2 = (45 : Int32)))).2 (by decide) (by decide) ?_
    refine XS.iinc X471.here hx rfl (hB d21_22) rfl (l' := #[.val (.ref b), .val (.int 45), .val (.int 0), .val (.int nn), .val (.int 3)]) rfl ?_
    refine XS.goto X471.here hx rfl (pc0 := 25) (pc' := 3) rfl (hB d21_25) (by decide) (by decide) ?_
    refine XS.iload X471.here hx rfl (hB d21_3) rfl ?_
    refine XS.iloadN X471.here hx rfl (hB d21_5) rfl ?_
    refine XS.icmpNo X471.here hx rfl (hB d21_6) rfl (tlt (t3 : (3 : Int32) < nn)).2.1 ?_
    refine XS.aloadN X471.here hx rfl (hB d21_9) rfl rfl ?_
    refine XS.iload X471.here hx rfl (hB d21_10) rfl ?_
    refine st472 _ ?_
    show Steps _ _ _ (T472.setTop (mkF m 15 #[.val (.ref b), .val (.int 45), .val (.int 0), .val (.int nn), .val (.int 3)] [.int d3])) _
    refine XS.iloadN X472.here hx rfl (hB d21_15) rfl ?_
    refine XS.icmpYes X472.here hx rfl (pc0 := 16) (pc' := 22) rfl (hB d21_16) rfl (feq (m3 : ¬ (d3 = (45 : Int32)))).2 (by decide) (by decide) ?_
    refine XS.iinc X472.here hx rfl (hB d21_22) rfl (l' := #[.val (.ref b), .val (.int 45), .val (.int 0), .val (.int nn), .val (.int 4)]) rfl ?_
    refine XS.goto X472.here hx rfl (pc0 := 25) (pc' := 3) rfl (hB d21_25) (by decide) (by decide) ?_
    refine XS.iload X472.here hx rfl (hB d21_3) rfl ?_
    refine XS.iloadN X472.here hx rfl (hB d21_5) rfl ?_
    refine XS.icmpYes X472.here hx rfl (pc0 := 6) (pc' := 28) rfl (hB d21_6) rfl (flt (te : ¬ ((4 : Int32) < nn))).2.1 (by decide) (by decide) ?_
    refine XS.iconst X472.here hx rfl (hB d21_28) ?_
    exact retOut X472 hx Bd.returns rfl (Or.inl ⟨rfl, Or.inl rfl, _, rfl⟩) (hB d21_29) hr
  · show QicW Z G1 fm b kb z vs cs nn h0 n0 _ T472.heap _
    rw [eq472]
    exact ⟨(-1 : Int32), rfl, N472, rfl, hrs⟩
theorem rmicW (l : Launch) (Z : State) (a0 : Array Value) (G1 : Int32) (fm : Value) (hG : Glob Z a0 G1 fm) (ws : List Jvm.Cond) (b : Addr) (kb : ClassId) (z : Int32) (vs : List Value) (cs : List Int32) (nn : Int32) (h0 : Heap) (n0 : Nat) (Z0 : n0 ≤ h0.size) (X00 : Old Z n0 h0) (V_b : Arv Z h0 b kb .byte z vs (.int 0)) (hz : z = Int32.ofNat (2 * cs.length)) (hv : vs = own_wb cs) (hn : cs.length < 5) (hu : ∀ c ∈ cs, own_u16 c) (en : nn = Int32.ofNat cs.length) (nz : (0 : Int32) < nn) :
    Met l Z h0 y21 jdk_52_method_48_code 5 (some .int) ws (Room.mk 1 0 0 13) #[.ref b, .int 45, .int 0, .int nn] (QicW Z G1 fm b kb z vs cs nn h0 n0) := by
  match cs, hz, hv, hn, hu, en, nz with
  | [], hz, hv, hn, hu, en, nz => exact absurd nz (by rw [en]; decide)
  | [e0], hz, hv, hn, hu, en, nz =>
    by_cases q0 : e0 = (45 : Int32)
    · exact rmicW_h0 l Z a0 G1 fm hG ws b kb z vs [e0] nn h0 n0 Z0 X00 V_b hz hv hn hu en nz e0 rfl (by rw [en]; exact (by decide : (0 : Int32) < Int32.ofNat 1)) q0 (Or.inr ⟨own_h1 q0, by decide⟩)
    exact rmicW_m1 l Z a0 G1 fm hG ws b kb z vs [e0] nn h0 n0 Z0 X00 V_b hz hv hn hu en nz e0 rfl (by rw [en]; exact (by decide : (0 : Int32) < Int32.ofNat 1)) q0 (by rw [en]; exact (by decide : ¬ ((1 : Int32) < Int32.ofNat 1))) (Or.inl ⟨own_h0 q0, rfl⟩)
  | [e0, e1], hz, hv, hn, hu, en, nz =>
    by_cases q0 : e0 = (45 : Int32)
    · exact rmicW_h0 l Z a0 G1 fm hG ws b kb z vs [e0, e1] nn h0 n0 Z0 X00 V_b hz hv hn hu en nz e0 rfl (by rw [en]; exact (by decide : (0 : Int32) < Int32.ofNat 2)) q0 (Or.inr ⟨own_h1 q0, by decide⟩)
    by_cases q1 : e1 = (45 : Int32)
    · exact rmicW_h1 l Z a0 G1 fm hG ws b kb z vs [e0, e1] nn h0 n0 Z0 X00 V_b hz hv hn hu en nz e0 rfl (by rw [en]; exact (by decide : (0 : Int32) < Int32.ofNat 2)) e1 rfl (by rw [en]; exact (by decide : (1 : Int32) < Int32.ofNat 2)) q0 q1 (Or.inr ⟨(own_h0 q0).trans (own_h1 q1), by decide⟩)
    exact rmicW_m2 l Z a0 G1 fm hG ws b kb z vs [e0, e1] nn h0 n0 Z0 X00 V_b hz hv hn hu en nz e0 rfl (by rw [en]; exact (by decide : (0 : Int32) < Int32.ofNat 2)) e1 rfl (by rw [en]; exact (by decide : (1 : Int32) < Int32.ofNat 2)) q0 q1 (by rw [en]; exact (by decide : ¬ ((2 : Int32) < Int32.ofNat 2))) (Or.inl ⟨(own_h0 q0).trans (own_h0 q1), rfl⟩)
  | [e0, e1, e2], hz, hv, hn, hu, en, nz =>
    by_cases q0 : e0 = (45 : Int32)
    · exact rmicW_h0 l Z a0 G1 fm hG ws b kb z vs [e0, e1, e2] nn h0 n0 Z0 X00 V_b hz hv hn hu en nz e0 rfl (by rw [en]; exact (by decide : (0 : Int32) < Int32.ofNat 3)) q0 (Or.inr ⟨own_h1 q0, by decide⟩)
    by_cases q1 : e1 = (45 : Int32)
    · exact rmicW_h1 l Z a0 G1 fm hG ws b kb z vs [e0, e1, e2] nn h0 n0 Z0 X00 V_b hz hv hn hu en nz e0 rfl (by rw [en]; exact (by decide : (0 : Int32) < Int32.ofNat 3)) e1 rfl (by rw [en]; exact (by decide : (1 : Int32) < Int32.ofNat 3)) q0 q1 (Or.inr ⟨(own_h0 q0).trans (own_h1 q1), by decide⟩)
    by_cases q2 : e2 = (45 : Int32)
    · exact rmicW_h2 l Z a0 G1 fm hG ws b kb z vs [e0, e1, e2] nn h0 n0 Z0 X00 V_b hz hv hn hu en nz e0 rfl (by rw [en]; exact (by decide : (0 : Int32) < Int32.ofNat 3)) e1 rfl (by rw [en]; exact (by decide : (1 : Int32) < Int32.ofNat 3)) e2 rfl (by rw [en]; exact (by decide : (2 : Int32) < Int32.ofNat 3)) q0 q1 q2 (Or.inr ⟨(own_h0 q0).trans ((own_h0 q1).trans (own_h1 q2)), by decide⟩)
    exact rmicW_m3 l Z a0 G1 fm hG ws b kb z vs [e0, e1, e2] nn h0 n0 Z0 X00 V_b hz hv hn hu en nz e0 rfl (by rw [en]; exact (by decide : (0 : Int32) < Int32.ofNat 3)) e1 rfl (by rw [en]; exact (by decide : (1 : Int32) < Int32.ofNat 3)) e2 rfl (by rw [en]; exact (by decide : (2 : Int32) < Int32.ofNat 3)) q0 q1 q2 (by rw [en]; exact (by decide : ¬ ((3 : Int32) < Int32.ofNat 3))) (Or.inl ⟨(own_h0 q0).trans ((own_h0 q1).trans (own_h0 q2)), rfl⟩)
  | [e0, e1, e2, e3], hz, hv, hn, hu, en, nz =>
    by_cases q0 : e0 = (45 : Int32)
    · exact rmicW_h0 l Z a0 G1 fm hG ws b kb z vs [e0, e1, e2, e3] nn h0 n0 Z0 X00 V_b hz hv hn hu en nz e0 rfl (by rw [en]; exact (by decide : (0 : Int32) < Int32.ofNat 4)) q0 (Or.inr ⟨own_h1 q0, by decide⟩)
    by_cases q1 : e1 = (45 : Int32)
    · exact rmicW_h1 l Z a0 G1 fm hG ws b kb z vs [e0, e1, e2, e3] nn h0 n0 Z0 X00 V_b hz hv hn hu en nz e0 rfl (by rw [en]; exact (by decide : (0 : Int32) < Int32.ofNat 4)) e1 rfl (by rw [en]; exact (by decide : (1 : Int32) < Int32.ofNat 4)) q0 q1 (Or.inr ⟨(own_h0 q0).trans (own_h1 q1), by decide⟩)
    by_cases q2 : e2 = (45 : Int32)
    · exact rmicW_h2 l Z a0 G1 fm hG ws b kb z vs [e0, e1, e2, e3] nn h0 n0 Z0 X00 V_b hz hv hn hu en nz e0 rfl (by rw [en]; exact (by decide : (0 : Int32) < Int32.ofNat 4)) e1 rfl (by rw [en]; exact (by decide : (1 : Int32) < Int32.ofNat 4)) e2 rfl (by rw [en]; exact (by decide : (2 : Int32) < Int32.ofNat 4)) q0 q1 q2 (Or.inr ⟨(own_h0 q0).trans ((own_h0 q1).trans (own_h1 q2)), by decide⟩)
    by_cases q3 : e3 = (45 : Int32)
    · exact rmicW_h3 l Z a0 G1 fm hG ws b kb z vs [e0, e1, e2, e3] nn h0 n0 Z0 X00 V_b hz hv hn hu en nz e0 rfl (by rw [en]; exact (by decide : (0 : Int32) < Int32.ofNat 4)) e1 rfl (by rw [en]; exact (by decide : (1 : Int32) < Int32.ofNat 4)) e2 rfl (by rw [en]; exact (by decide : (2 : Int32) < Int32.ofNat 4)) e3 rfl (by rw [en]; exact (by decide : (3 : Int32) < Int32.ofNat 4)) q0 q1 q2 q3 (Or.inr ⟨(own_h0 q0).trans ((own_h0 q1).trans ((own_h0 q2).trans (own_h1 q3))), by decide⟩)
    exact rmicW_m4 l Z a0 G1 fm hG ws b kb z vs [e0, e1, e2, e3] nn h0 n0 Z0 X00 V_b hz hv hn hu en nz e0 rfl (by rw [en]; exact (by decide : (0 : Int32) < Int32.ofNat 4)) e1 rfl (by rw [en]; exact (by decide : (1 : Int32) < Int32.ofNat 4)) e2 rfl (by rw [en]; exact (by decide : (2 : Int32) < Int32.ofNat 4)) e3 rfl (by rw [en]; exact (by decide : (3 : Int32) < Int32.ofNat 4)) q0 q1 q2 q3 (by rw [en]; exact (by decide : ¬ ((4 : Int32) < Int32.ofNat 4))) (Or.inl ⟨(own_h0 q0).trans ((own_h0 q1).trans ((own_h0 q2).trans (own_h0 q3))), rfl⟩)
  | e0 :: e1 :: e2 :: e3 :: e4 :: t, hz, hv, hn, hu, en, nz => exact absurd hn (by simp only [List.length_cons]; omega)
theorem d22_0 : decode jdk_52_method_47_code 0 = .ok (.iload_n 2, 1) := by decide +kernel
theorem d22_1 : decode jdk_52_method_47_code 1 = .ok (.iload_n 3, 1) := by decide +kernel
theorem d22_2 : decode jdk_52_method_47_code 2 = .ok (.aload_n 0, 1) := by decide +kernel
theorem d22_3 : decode jdk_52_method_47_code 3 = .ok (.invokestatic 96, 3) := by decide +kernel
theorem pd__II_B_V : parseMethodDescriptor "(II[B)V" = some ⟨[.int, .int, (.array .byte)], none⟩ := by decide +kernel
theorem d22_6 : decode jdk_52_method_47_code 6 = .ok (.aload_n 0, 1) := by decide +kernel
theorem d22_7 : decode jdk_52_method_47_code 7 = .ok (.iload_n 1, 1) := by decide +kernel
theorem d22_8 : decode jdk_52_method_47_code 8 = .ok (.iload_n 2, 1) := by decide +kernel
theorem d22_9 : decode jdk_52_method_47_code 9 = .ok (.iload_n 3, 1) := by decide +kernel
theorem d22_10 : decode jdk_52_method_47_code 10 = .ok (.invokestatic 244, 3) := by decide +kernel
theorem pd___BIII_I : parseMethodDescriptor "([BIII)I" = some ⟨[(.array .byte), .int, .int, .int], some .int⟩ := by decide +kernel
theorem d22_13 : decode jdk_52_method_47_code 13 = .ok (.ireturn, 1) := by decide +kernel
def Quic (Z : State) (G1 : Int32) (fm : Value) (b : Addr) (kb : ClassId) (z : Int32) (vs : List Value) (cs : List Int32) (nn : Int32) (h0 : Heap) (n0 : Nat) (v : Option Value) (h : Heap) (L : List Loc) : Prop := ∃ r : Int32, v = some (.int r) ∧ Fr n0 L ∧ h = h0 ∧ own_rs cs r
theorem ef_jdk_52_method_47_code_RIII (m : MethodId) (x0 : Addr) (x1 : Int32) (x2 : Int32) (x3 : Int32) : entryFrame m #[.ref x0, .int x1, .int x2, .int x3] 4 = mkF m 0 #[.val (.ref x0), .val (.int x1), .val (.int x2), .val (.int x3)] [] := by first | (simp [entryFrame, mkF, argsToLocals, Value.category]; done) | rfl
abbrev y22 : MethodName := ⟨"java/lang/StringUTF16", "indexOfChar", "([BIII)I"⟩
theorem rmuic (l : Launch) (Z : State) (a0 : Array Value) (G1 : Int32) (fm : Value) (hG : Glob Z a0 G1 fm) (ws : List Jvm.Cond) (b : Addr) (kb : ClassId) (z : Int32) (vs : List Value) (cs : List Int32) (nn : Int32) (h0 : Heap) (n0 : Nat) (Z0 : n0 ≤ h0.size) (X00 : Old Z n0 h0) (V_b : Arv Z h0 b kb .byte z vs (.int 0)) (hz : z = Int32.ofNat (2 * cs.length)) (hv : vs = own_wb cs) (hn : cs.length < 5) (hu : ∀ c ∈ cs, own_u16 c) (en : nn = Int32.ofNat cs.length) (nz : (0 : Int32) < nn) :
    Met l Z h0 y22 jdk_52_method_47_code 4 (some .int) ws (Room.mk 3 0 0 43) #[.ref b, .int 45, .int 0, .int nn] (Quic Z G1 fm b kb z vs cs nn h0 n0) := by
  obtain ⟨hw, O_cs, P_cs, O_as, O_hi, O_lo, O_fm, R_fm⟩ := id hG
  have W := @own_W _ _ hw
  refine own_go "java/lang/StringUTF16" rfl (plainFor_of_name pn_java_lang_StringUTF16) ?_
  intro p e s m below meth c s₁ Bd hx hby hml hown hnm X0 e0 hZ
  have hB := @hb _ _ hby
  have N0 := Fr.nil n0
  -- pc 3: java/lang/StringUTF16.checkBoundsBeginEnd
  obtain ⟨_, _, ⟨T473, L473, k473, n473⟩, -, X473, ⟨Lc473, hQ473, l473, y473, z473⟩, st473⟩ := Jvm.LawKit.callS X0 hx (y := y19) hown (mvT hZ (W 115 rfl)) (mvT hZ (W 116 rfl)) (mvT hZ (W 76 rfl)) (mvT hZ (W 117 rfl)) (by decide) (backOf (W := 0) (rmucb l Z a0 G1 fm hG [] nn b kb z vs h0 n0 Z0 X00 V_b (own_nn0 hn en) (own_irr (own_zz hz hn en))) hZ (W 117 rfl) (W 76 rfl) (by decide) (by decide)) (g := (mkF m 3 #[.val (.ref b), .val (.int 45), .val (.int 0), .val (.int nn)] [.ref b, .int nn, .int 0])) rfl (by rw [hml]; rfl) (argsL := [.int 0, .int nn, .ref b]) (rest := []) (lenOf pd__II_B_V rfl) rfl (by show 2 * 0 + _ ≤ _; exact Nat.le_of_eq rfl) (hB d22_3) (fun _ _ => ⟨rfl, e0, (by decide : 0 + 0 ≤ _), (by decide : 0 + 0 ≤ _)⟩)
  dsimp only [Pt.U, Pt.locs, Pt.cells, Pt.slots] at X473 l473 y473 z473 st473 hQ473
  subst l473 y473 z473
  obtain ⟨rfl, N473q, eq473⟩ := hQ473
  have N473 := Fr.app N0 N473q
  -- pc 10: java/lang/StringUTF16.indexOfCharUnsafe
  obtain ⟨_, _, ⟨T474, L474, k474, n474⟩, -, X474, ⟨Lc474, hQ474, l474, y474, z474⟩, st474⟩ := Jvm.LawKit.callS X473 hx (y := y21) hown (mvT hZ (W 129 rfl)) (mvT hZ (W 130 rfl)) (mvT hZ (W 76 rfl)) (mvT hZ (W 131 rfl)) (by decide) (backOf (W := 0) (rmicW l Z a0 G1 fm hG [] b kb z vs cs nn h0 n0 Z0 X00 V_b hz hv hn hu en nz) hZ (W 131 rfl) (W 76 rfl) (by decide) (by decide)) (g := (mkF m 10 #[.val (.ref b), .val (.int 45), .val (.int 0), .val (.int nn)] [.int nn, .int 0, .int 45, .ref b])) rfl (by rw [hml]; rfl) (argsL := [.ref b, .int 45, .int 0, .int nn]) (rest := []) (lenOf pd___BIII_I rfl) rfl (by show 2 * 0 + _ ≤ _; exact Nat.le_of_eq rfl) (hB d22_10) (fun _ _ => ⟨rfl, eq473, (by decide : 0 + 0 ≤ _), (by decide : 0 + 0 ≤ _)⟩)
  dsimp only [Pt.U, Pt.locs, Pt.cells, Pt.slots] at X474 l474 y474 z474 st474 hQ474
  subst l474 y474 z474
  obtain ⟨r_474, rfl, N474q, eq474, f474_0⟩ := hQ474
  have N474 := Fr.app N473 N474q
  obtain ⟨fs, hr, hrun, hended, hW, hsame⟩ := X474.leave (v := some (.int r_474)) (fun h => by rw [Bd.returns] at h; cases h)
  refine ⟨_, _, castTop (ef_jdk_52_method_47_code_RIII m b (45 : Int32) (0 : Int32) nn) ?_, hrun, hended, _, _, rfl, ?_, ⟨_, rfl⟩, hW, hsame.mono (own_ble rfl) (own_ble rfl)⟩
  · show Steps _ _ _ (s₁.setTop (mkF m 0 #[.val (.ref b), .val (.int 45), .val (.int 0), .val (.int nn)] [])) _
    refine XS.iloadN X0.here hx rfl (hB d22_0) rfl ?_
    refine XS.iloadN X0.here hx rfl (hB d22_1) rfl ?_
    refine XS.aloadN X0.here hx rfl (hB d22_2) rfl rfl ?_
    refine st473 _ ?_
    show Steps _ _ _ (T473.setTop (mkF m 6 #[.val (.ref b), .val (.int 45), .val (.int 0), .val (.int nn)] [])) _
    refine XS.aloadN X473.here hx rfl (hB d22_6) rfl rfl ?_
    refine XS.iloadN X473.here hx rfl (hB d22_7) rfl ?_
    refine XS.iloadN X473.here hx rfl (hB d22_8) rfl ?_
    refine XS.iloadN X473.here hx rfl (hB d22_9) rfl ?_
    refine st474 _ ?_
    show Steps _ _ _ (T474.setTop (mkF m 13 #[.val (.ref b), .val (.int 45), .val (.int 0), .val (.int nn)] [.int r_474])) _
    exact retOut X474 hx Bd.returns rfl (Or.inl ⟨rfl, Or.inl rfl, _, rfl⟩) (hB d22_13) hr
  · show Quic Z G1 fm b kb z vs cs nn h0 n0 _ T474.heap _
    rw [eq474]
    exact ⟨r_474, rfl, N474, rfl, f474_0⟩
theorem d23_0 : decode jdk_52_method_40_code 0 = .ok (.iload_n 2, 1) := by decide +kernel
theorem d23_1 : decode jdk_52_method_40_code 1 = .ok (.iconst 0, 1) := by decide +kernel
theorem d23_2 : decode jdk_52_method_40_code 2 = .ok (.invokestatic 224, 3) := by decide +kernel
theorem pd__II_I : parseMethodDescriptor "(II)I" = some ⟨[.int, .int], some .int⟩ := by decide +kernel
theorem d23_5 : decode jdk_52_method_40_code 5 = .ok (.istore_n 2, 1) := by decide +kernel
theorem d23_6 : decode jdk_52_method_40_code 6 = .ok (.iload_n 3, 1) := by decide +kernel
theorem d23_7 : decode jdk_52_method_40_code 7 = .ok (.aload_n 0, 1) := by decide +kernel
theorem d23_8 : decode jdk_52_method_40_code 8 = .ok (.arraylength, 1) := by decide +kernel
theorem d23_9 : decode jdk_52_method_40_code 9 = .ok (.iconst 1, 1) := by decide +kernel
theorem d23_10 : decode jdk_52_method_40_code 10 = .ok (.ishr, 1) := by decide +kernel
theorem d23_11 : decode jdk_52_method_40_code 11 = .ok (.invokestatic 183, 3) := by decide +kernel
theorem d23_14 : decode jdk_52_method_40_code 14 = .ok (.istore_n 3, 1) := by decide +kernel
theorem d23_15 : decode jdk_52_method_40_code 15 = .ok (.iload_n 2, 1) := by decide +kernel
theorem d23_16 : decode jdk_52_method_40_code 16 = .ok (.iload_n 3, 1) := by decide +kernel
theorem d23_17 : decode jdk_52_method_40_code 17 = .ok (.if_icmp .lt 5, 3) := by decide +kernel
theorem d23_20 : decode jdk_52_method_40_code 20 = .ok (.iconst (-1), 1) := by decide +kernel
theorem d23_21 : decode jdk_52_method_40_code 21 = .ok (.ireturn, 1) := by decide +kernel
theorem d23_22 : decode jdk_52_method_40_code 22 = .ok (.iload_n 1, 1) := by decide +kernel
theorem d23_23 : decode jdk_52_method_40_code 23 = .ok (.ldc 227, 2) := by decide +kernel
theorem d23_25 : decode jdk_52_method_40_code 25 = .ok (.if_icmp .ge 11, 3) := by decide +kernel
theorem d23_28 : decode jdk_52_method_40_code 28 = .ok (.aload_n 0, 1) := by decide +kernel
theorem d23_29 : decode jdk_52_method_40_code 29 = .ok (.iload_n 1, 1) := by decide +kernel
theorem d23_30 : decode jdk_52_method_40_code 30 = .ok (.iload_n 2, 1) := by decide +kernel
theorem d23_31 : decode jdk_52_method_40_code 31 = .ok (.iload_n 3, 1) := by decide +kernel
theorem d23_32 : decode jdk_52_method_40_code 32 = .ok (.invokestatic 228, 3) := by decide +kernel
theorem d23_35 : decode jdk_52_method_40_code 35 = .ok (.ireturn, 1) := by decide +kernel
def Quix (Z : State) (G1 : Int32) (fm : Value) (b : Addr) (kb : ClassId) (z : Int32) (vs : List Value) (cs : List Int32) (nn : Int32) (h0 : Heap) (n0 : Nat) (v : Option Value) (h : Heap) (L : List Loc) : Prop := ∃ r : Int32, v = some (.int r) ∧ Fr n0 L ∧ h = h0 ∧ own_rs cs r
theorem ef_jdk_52_method_40_code_RIII (m : MethodId) (x0 : Addr) (x1 : Int32) (x2 : Int32) (x3 : Int32) : entryFrame m #[.ref x0, .int x1, .int x2, .int x3] 4 = mkF m 0 #[.val (.ref x0), .val (.int x1), .val (.int x2), .val (.int x3)] [] := by first | (simp [entryFrame, mkF, argsToLocals, Value.category]; done) | rfl
abbrev y23 : MethodName := ⟨"java/lang/StringUTF16", "indexOf", "([BIII)I"⟩
theorem rmuix_z (l : Launch) (Z : State) (a0 : Array Value) (G1 : Int32) (fm : Value) (hG : Glob Z a0 G1 fm) (ws : List Jvm.Cond) (b : Addr) (kb : ClassId) (z : Int32) (vs : List Value) (cs : List Int32) (nn : Int32) (h0 : Heap) (n0 : Nat) (Z0 : n0 ≤ h0.size) (X00 : Old Z n0 h0) (V_b : Arv Z h0 b kb .byte z vs (.int 0)) (hz : z = Int32.ofNat (2 * cs.length)) (hv : vs = own_wb cs) (hn : cs.length < 5) (hu : ∀ c ∈ cs, own_u16 c) (en : nn = Int32.ofNat cs.length) (z0 : ¬ ((0 : Int32) < nn)) (hrs : own_rs cs (-1 : Int32)) :
    Met l Z h0 y23 jdk_52_method_40_code 4 (some .int) ws (Room.mk 4 0 0 58) #[.ref b, .int 45, .int 0, .int nn] (Quix Z G1 fm b kb z vs cs nn h0 n0) := by
  obtain ⟨hw, O_cs, P_cs, O_as, O_hi, O_lo, O_fm, R_fm⟩ := id hG
  have W := @own_W _ _ hw
  refine own_go "java/lang/StringUTF16" rfl (plainFor_of_name pn_java_lang_StringUTF16) ?_
  intro p e s m below meth c s₁ Bd hx hby hml hown hnm X0 e0 hZ
  have hB := @hb _ _ hby
  have N0 := Fr.nil n0
  -- pc 2: java/lang/Math.max
  obtain ⟨_, _, ⟨T475, L475, k475, n475⟩, -, X475, ⟨Lc475, hQ475, l475, y475, z475⟩, st475⟩ := Jvm.LawKit.callS X0 hx (y := y14) hown (mvT hZ (W 109 rfl)) (mvT hZ (W 68 rfl)) (mvT hZ (W 69 rfl)) (mvT hZ (W 70 rfl)) (by decide) (backOf (W := 0) (rmmx l Z a0 G1 fm hG [] h0 n0 Z0 X00) hZ (W 70 rfl) (W 69 rfl) (by decide) (by decide)) (g := (mkF m 2 #[.val (.ref b), .val (.int 45), .val (.int 0), .val (.int nn)] [.int 0, .int 0])) rfl (by rw [hml]; rfl) (argsL := [.int 0, .int 0]) (rest := []) (lenOf pd__II_I rfl) rfl (by show 2 * 0 + _ ≤ _; exact Nat.le_of_eq rfl) (hB d23_2) (fun _ _ => ⟨rfl, e0, (by decide : 0 + 0 ≤ _), (by decide : 0 + 0 ≤ _)⟩)
  dsimp only [Pt.U, Pt.locs, Pt.cells, Pt.slots] at X475 l475 y475 z475 st475 hQ475
  subst l475 y475 z475
  obtain ⟨rfl, N475q, eq475⟩ := hQ475
  have N475 := Fr.app N0 N475q
  obtain ⟨clq476, Arq476, qaq476, Sq476, Nq476, Hq476, Gq476⟩ := id V_b
  -- pc 11: java/lang/Math.min
  obtain ⟨_, _, ⟨T477, L477, k477, n477⟩, -, X477, ⟨Lc477, hQ477, l477, y477, z477⟩, st477⟩ := Jvm.LawKit.callS X475 hx (y := y15) hown (mvT hZ (W 110 rfl)) (mvT hZ (W 72 rfl)) (mvT hZ (W 69 rfl)) (mvT hZ (W 73 rfl)) (by decide) (backOf (W := 0) (rmmn l Z a0 G1 fm hG [] nn (z >>> ((1 : Int32) &&& 31)) h0 n0 Z0 X00 (own_irr (own_zz hz hn en))) hZ (W 73 rfl) (W 69 rfl) (by decide) (by decide)) (g := (mkF m 11 #[.val (.ref b), .val (.int 45), .val (.int 0), .val (.int nn)] [(.int (z >>> ((1 : Int32) &&& 31))), .int nn])) rfl (by rw [hml]; rfl) (argsL := [.int nn, (.int (z >>> ((1 : Int32) &&& 31)))]) (rest := []) (lenOf pd__II_I rfl) rfl (by show 2 * 0 + _ ≤ _; exact Nat.le_of_eq rfl) (hB d23_11) (fun _ _ => ⟨rfl, eq475, (by decide : 0 + 0 ≤ _), (by decide : 0 + 0 ≤ _)⟩)
  dsimp only [Pt.U, Pt.locs, Pt.cells, Pt.slots] at X477 l477 y477 z477 st477 hQ477
  subst l477 y477 z477
  obtain ⟨rfl, N477q, eq477⟩ := hQ477
  have N477 := Fr.app N475 N477q
  obtain ⟨fs, hr, hrun, hended, hW, hsame⟩ := X477.leave (v := some (.int (-1))) (fun h => by rw [Bd.returns] at h; cases h)
  refine ⟨_, _, castTop (ef_jdk_52_method_40_code_RIII m b (45 : Int32) (0 : Int32) nn) ?_, hrun, hended, _, _, rfl, ?_, ⟨_, rfl⟩, hW, hsame.mono (own_ble rfl) (own_ble rfl)⟩
  · show Steps _ _ _ (s₁.setTop (mkF m 0 #[.val (.ref b), .val (.int 45), .val (.int 0), .val (.int nn)] [])) _
    refine XS.iloadN X0.here hx rfl (hB d23_0) rfl ?_
    refine XS.iconst X0.here hx rfl (hB d23_1) ?_
    refine st475 _ ?_
    show Steps _ _ _ (T475.setTop (mkF m 5 #[.val (.ref b), .val (.int 45), .val (.int 0), .val (.int nn)] [.int 0])) _
    refine XS.istoreN X475.here hx rfl (hB d23_5) rfl (l' := #[.val (.ref b), .val (.int 45), .val (.int 0), .val (.int nn)]) rfl ?_
    refine XS.iloadN X475.here hx rfl (hB d23_6) rfl ?_
    refine XS.aloadN X475.here hx rfl (hB d23_7) rfl rfl ?_
    refine X475.arraylength hx (own_cell eq475 Arq476.1) (State.isArrayOf_alike hZ.alike Arq476.2.1) (g := (mkF m 8 #[.val (.ref b), .val (.int 45), .val (.int 0), .val (.int nn)] [.ref b, .int nn])) rfl rfl (hB d23_8) _ ?_
    rw [len_of Sq476 Nq476]
    refine XS.iconst X475.here hx rfl (hB d23_9) ?_
    refine XS.ishr X475.here hx rfl (hB d23_10) rfl ?_
    refine st477 _ ?_
    show Steps _ _ _ (T477.setTop (mkF m 14 #[.val (.ref b), .val (.int 45), .val (.int 0), .val (.int nn)] [.int nn])) _
    refine XS.istoreN X477.here hx rfl (hB d23_14) rfl (l' := #[.val (.ref b), .val (.int 45), .val (.int 0), .val (.int nn)]) rfl ?_
    refine XS.iloadN X477.here hx rfl (hB d23_15) rfl ?_
    refine XS.iloadN X477.here hx rfl (hB d23_16) rfl ?_
    refine XS.icmpNo X477.here hx rfl (hB d23_17) rfl (flt (z0 : ¬ ((0 : Int32) < nn))).1 ?_
    refine XS.iconst X477.here hx rfl (hB d23_20) ?_
    exact retOut X477 hx Bd.returns rfl (Or.inl ⟨rfl, Or.inl rfl, _, rfl⟩) (hB d23_21) hr
  · show Quix Z G1 fm b kb z vs cs nn h0 n0 _ T477.heap _
    rw [eq477]
    exact ⟨(-1 : Int32), rfl, N477, rfl, hrs⟩
theorem rmuix_p (l : Launch) (Z : State) (a0 : Array Value) (G1 : Int32) (fm : Value) (hG : Glob Z a0 G1 fm) (ws : List Jvm.Cond) (b : Addr) (kb : ClassId) (z : Int32) (vs : List Value) (cs : List Int32) (nn : Int32) (h0 : Heap) (n0 : Nat) (Z0 : n0 ≤ h0.size) (X00 : Old Z n0 h0) (V_b : Arv Z h0 b kb .byte z vs (.int 0)) (hz : z = Int32.ofNat (2 * cs.length)) (hv : vs = own_wb cs) (hn : cs.length < 5) (hu : ∀ c ∈ cs, own_u16 c) (en : nn = Int32.ofNat cs.length) (z1 : (0 : Int32) < nn) :
    Met l Z h0 y23 jdk_52_method_40_code 4 (some .int) ws (Room.mk 4 0 0 58) #[.ref b, .int 45, .int 0, .int nn] (Quix Z G1 fm b kb z vs cs nn h0 n0) := by
  obtain ⟨hw, O_cs, P_cs, O_as, O_hi, O_lo, O_fm, R_fm⟩ := id hG
  have W := @own_W _ _ hw
  refine own_go "java/lang/StringUTF16" rfl (plainFor_of_name pn_java_lang_StringUTF16) ?_
  intro p e s m below meth c s₁ Bd hx hby hml hown hnm X0 e0 hZ
  have hB := @hb _ _ hby
  have N0 := Fr.nil n0
  -- pc 2: java/lang/Math.max
  obtain ⟨_, _, ⟨T478, L478, k478, n478⟩, -, X478, ⟨Lc478, hQ478, l478, y478, z478⟩, st478⟩ := Jvm.LawKit.callS X0 hx (y := y14) hown (mvT hZ (W 109 rfl)) (mvT hZ (W 68 rfl)) (mvT hZ (W 69 rfl)) (mvT hZ (W 70 rfl)) (by decide) (backOf (W := 0) (rmmx l Z a0 G1 fm hG [] h0 n0 Z0 X00) hZ (W 70 rfl) (W 69 rfl) (by decide) (by decide)) (g := (mkF m 2 #[.val (.ref b), .val (.int 45), .val (.int 0), .val (.int nn)] [.int 0, .int 0])) rfl (by rw [hml]; rfl) (argsL := [.int 0, .int 0]) (rest := []) (lenOf pd__II_I rfl) rfl (by show 2 * 0 + _ ≤ _; exact Nat.le_of_eq rfl) (hB d23_2) (fun _ _ => ⟨rfl, e0, (by decide : 0 + 0 ≤ _), (by decide : 0 + 0 ≤ _)⟩)
  dsimp only [Pt.U, Pt.locs, Pt.cells, Pt.slots] at X478 l478 y478 z478 st478 hQ478
  subst l478 y478 z478
  obtain ⟨rfl, N478q, eq478⟩ := hQ478
  have N478 := Fr.app N0 N478q
  obtain ⟨clq479, Arq479, qaq479, Sq479, Nq479, Hq479, Gq479⟩ := id V_b
  -- pc 11: java/lang/Math.min
  obtain ⟨_, _, ⟨T480, L480, k480, n480⟩, -, X480, ⟨Lc480, hQ480, l480, y480, z480⟩, st480⟩ := Jvm.LawKit.callS X478 hx (y := y15) hown (mvT hZ (W 110 rfl)) (mvT hZ (W 72 rfl)) (mvT hZ (W 69 rfl)) (mvT hZ (W 73 rfl)) (by decide) (backOf (W := 0) (rmmn l Z a0 G1 fm hG [] nn (z >>> ((1 : Int32) &&& 31)) h0 n0 Z0 X00 (own_irr (own_zz hz hn en))) hZ (W 73 rfl) (W 69 rfl) (by decide) (by decide)) (g := (mkF m 11 #[.val (.ref b), .val (.int 45), .val (.int 0), .val (.int nn)] [(.int (z >>> ((1 : Int32) &&& 31))), .int nn])) rfl (by rw [hml]; rfl) (argsL := [.int nn, (.int (z >>> ((1 : Int32) &&& 31)))]) (rest := []) (lenOf pd__II_I rfl) rfl (by show 2 * 0 + _ ≤ _; exact Nat.le_of_eq rfl) (hB d23_11) (fun _ _ => ⟨rfl, eq478, (by decide : 0 + 0 ≤ _), (by decide : 0 + 0 ≤ _)⟩)
  dsimp only [Pt.U, Pt.locs, Pt.cells, Pt.slots] at X480 l480 y480 z480 st480 hQ480
  subst l480 y480 z480
  obtain ⟨rfl, N480q, eq480⟩ := hQ480
  have N480 := Fr.app N478 N480q
  -- pc 32: java/lang/StringUTF16.indexOfChar
  obtain ⟨_, _, ⟨T481, L481, k481, n481⟩, -, X481, ⟨Lc481, hQ481, l481, y481, z481⟩, st481⟩ := Jvm.LawKit.callS X480 hx (y := y22) hown (mvT hZ (W 112 rfl)) (mvT hZ (W 113 rfl)) (mvT hZ (W 76 rfl)) (mvT hZ (W 114 rfl)) (by decide) (backOf (W := 0) (rmuic l Z a0 G1 fm hG [] b kb z vs cs nn h0 n0 Z0 X00 V_b hz hv hn hu en z1) hZ (W 114 rfl) (W 76 rfl) (by decide) (by decide)) (g := (mkF m 32 #[.val (.ref b), .val (.int 45), .val (.int 0), .val (.int nn)] [.int nn, .int 0, .int 45, .ref b])) rfl (by rw [hml]; rfl) (argsL := [.ref b, .int 45, .int 0, .int nn]) (rest := []) (lenOf pd___BIII_I rfl) rfl (by show 2 * 0 + _ ≤ _; exact Nat.le_of_eq rfl) (hB d23_32) (fun _ _ => ⟨rfl, eq480, (by decide : 0 + 0 ≤ _), (by decide : 0 + 0 ≤ _)⟩)
  dsimp only [Pt.U, Pt.locs, Pt.cells, Pt.slots] at X481 l481 y481 z481 st481 hQ481
  subst l481 y481 z481
  obtain ⟨r_481, rfl, N481q, eq481, f481_0⟩ := hQ481
  have N481 := Fr.app N480 N481q
  obtain ⟨fs, hr, hrun, hended, hW, hsame⟩ := X481.leave (v := some (.int r_481)) (fun h => by rw [Bd.returns] at h; cases h)
  refine ⟨_, _, castTop (ef_jdk_52_method_40_code_RIII m b (45 : Int32) (0 : Int32) nn) ?_, hrun, hended, _, _, rfl, ?_, ⟨_, rfl⟩, hW, hsame.mono (own_ble rfl) (own_ble rfl)⟩
  · show Steps _ _ _ (s₁.setTop (mkF m 0 #[.val (.ref b), .val (.int 45), .val (.int 0), .val (.int nn)] [])) _
    refine XS.iloadN X0.here hx rfl (hB d23_0) rfl ?_
    refine XS.iconst X0.here hx rfl (hB d23_1) ?_
    refine st478 _ ?_
    show Steps _ _ _ (T478.setTop (mkF m 5 #[.val (.ref b), .val (.int 45), .val (.int 0), .val (.int nn)] [.int 0])) _
    refine XS.istoreN X478.here hx rfl (hB d23_5) rfl (l' := #[.val (.ref b), .val (.int 45), .val (.int 0), .val (.int nn)]) rfl ?_
    refine XS.iloadN X478.here hx rfl (hB d23_6) rfl ?_
    refine XS.aloadN X478.here hx rfl (hB d23_7) rfl rfl ?_
    refine X478.arraylength hx (own_cell eq478 Arq479.1) (State.isArrayOf_alike hZ.alike Arq479.2.1) (g := (mkF m 8 #[.val (.ref b), .val (.int 45), .val (.int 0), .val (.int nn)] [.ref b, .int nn])) rfl rfl (hB d23_8) _ ?_
    rw [len_of Sq479 Nq479]
    refine XS.iconst X478.here hx rfl (hB d23_9) ?_
    refine XS.ishr X478.here hx rfl (hB d23_10) rfl ?_
    refine st480 _ ?_
    show Steps _ _ _ (T480.setTop (mkF m 14 #[.val (.ref b), .val (.int 45), .val (.int 0), .val (.int nn)] [.int nn])) _
    refine XS.istoreN X480.here hx rfl (hB d23_14) rfl (l' := #[.val (.ref b), .val (.int 45), .val (.int 0), .val (.int nn)]) rfl ?_
    refine XS.iloadN X480.here hx rfl (hB d23_15) rfl ?_
    refine XS.iloadN X480.here hx rfl (hB d23_16) rfl ?_
    refine XS.icmpYes X480.here hx rfl (pc0 := 17) (pc' := 22) rfl (hB d23_17) rfl (tlt (z1 : (0 : Int32) < nn)).1 (by decide) (by decide) ?_
    refine XS.iloadN X480.here hx rfl (hB d23_22) rfl ?_
    refine X480.ldcInt hx hown (mvT hZ (W 111 rfl)) (g := (mkF m 23 #[.val (.ref b), .val (.int 45), .val (.int 0), .val (.int nn)] [.int 45])) rfl (hB d23_23) _ ?_
    refine XS.icmpNo X480.here hx rfl (hB d23_25) rfl (tlt (by decide : (45 : Int32) < (65536 : Int32))).2.1 ?_
    refine XS.aloadN X480.here hx rfl (hB d23_28) rfl rfl ?_
    refine XS.iloadN X480.here hx rfl (hB d23_29) rfl ?_
    refine XS.iloadN X480.here hx rfl (hB d23_30) rfl ?_
    refine XS.iloadN X480.here hx rfl (hB d23_31) rfl ?_
    refine st481 _ ?_
    show Steps _ _ _ (T481.setTop (mkF m 35 #[.val (.ref b), .val (.int 45), .val (.int 0), .val (.int nn)] [.int r_481])) _
    exact retOut X481 hx Bd.returns rfl (Or.inl ⟨rfl, Or.inl rfl, _, rfl⟩) (hB d23_35) hr
  · show Quix Z G1 fm b kb z vs cs nn h0 n0 _ T481.heap _
    rw [eq481]
    exact ⟨r_481, rfl, N481, rfl, f481_0⟩
theorem rmuix (l : Launch) (Z : State) (a0 : Array Value) (G1 : Int32) (fm : Value) (hG : Glob Z a0 G1 fm) (ws : List Jvm.Cond) (b : Addr) (kb : ClassId) (z : Int32) (vs : List Value) (cs : List Int32) (nn : Int32) (h0 : Heap) (n0 : Nat) (Z0 : n0 ≤ h0.size) (X00 : Old Z n0 h0) (V_b : Arv Z h0 b kb .byte z vs (.int 0)) (hz : z = Int32.ofNat (2 * cs.length)) (hv : vs = own_wb cs) (hn : cs.length < 5) (hu : ∀ c ∈ cs, own_u16 c) (en : nn = Int32.ofNat cs.length) :
    Met l Z h0 y23 jdk_52_method_40_code 4 (some .int) ws (Room.mk 4 0 0 58) #[.ref b, .int 45, .int 0, .int nn] (Quix Z G1 fm b kb z vs cs nn h0 n0) := by
  by_cases z1 : (0 : Int32) < nn
  · exact rmuix_p l Z a0 G1 fm hG ws b kb z vs cs nn h0 n0 Z0 X00 V_b hz hv hn hu en z1
  · have hr : own_rs cs (-1 : Int32) := by
      match cs, hn, en with
      | [], _, _ => exact Or.inl ⟨rfl, rfl⟩
      | [_], _, en => exact absurd (by rw [en]; exact (by decide : (0 : Int32) < Int32.ofNat 1)) z1
      | [_, _], _, en => exact absurd (by rw [en]; exact (by decide : (0 : Int32) < Int32.ofNat 2)) z1
      | [_, _, _], _, en => exact absurd (by rw [en]; exact (by decide : (0 : Int32) < Int32.ofNat 3)) z1
      | [_, _, _, _], _, en => exact absurd (by rw [en]; exact (by decide : (0 : Int32) < Int32.ofNat 4)) z1
      | _ :: _ :: _ :: _ :: _ :: _, hn, _ => exact absurd hn (by simp only [List.length_cons]; omega)
    exact rmuix_z l Z a0 G1 fm hG ws b kb z vs cs nn h0 n0 Z0 X00 V_b hz hv hn hu en z1 hr
theorem d24_0 : decode jdk_43_method_22_code 0 = .ok (.iload_n 1, 1) := by decide +kernel
theorem d24_1 : decode jdk_43_method_22_code 1 = .ok (.invokestatic 88, 3) := by decide +kernel
theorem pd__I_Z : parseMethodDescriptor "(I)Z" = some ⟨[.int], some .boolean⟩ := by decide +kernel
theorem d24_4 : decode jdk_43_method_22_code 4 = .ok (.ifCond .ne 5, 3) := by decide +kernel
theorem d24_9 : decode jdk_43_method_22_code 9 = .ok (.iload_n 2, 1) := by decide +kernel
theorem d24_10 : decode jdk_43_method_22_code 10 = .ok (.iconst 0, 1) := by decide +kernel
theorem d24_11 : decode jdk_43_method_22_code 11 = .ok (.invokestatic 92, 3) := by decide +kernel
theorem d24_14 : decode jdk_43_method_22_code 14 = .ok (.istore_n 2, 1) := by decide +kernel
theorem d24_15 : decode jdk_43_method_22_code 15 = .ok (.iload_n 3, 1) := by decide +kernel
theorem d24_16 : decode jdk_43_method_22_code 16 = .ok (.aload_n 0, 1) := by decide +kernel
theorem d24_17 : decode jdk_43_method_22_code 17 = .ok (.arraylength, 1) := by decide +kernel
theorem d24_18 : decode jdk_43_method_22_code 18 = .ok (.invokestatic 38, 3) := by decide +kernel
theorem d24_21 : decode jdk_43_method_22_code 21 = .ok (.istore_n 3, 1) := by decide +kernel
theorem d24_22 : decode jdk_43_method_22_code 22 = .ok (.iload_n 2, 1) := by decide +kernel
theorem d24_23 : decode jdk_43_method_22_code 23 = .ok (.iload_n 3, 1) := by decide +kernel
theorem d24_24 : decode jdk_43_method_22_code 24 = .ok (.if_icmp .lt 5, 3) := by decide +kernel
theorem d24_27 : decode jdk_43_method_22_code 27 = .ok (.iconst (-1), 1) := by decide +kernel
theorem d24_28 : decode jdk_43_method_22_code 28 = .ok (.ireturn, 1) := by decide +kernel
theorem d24_29 : decode jdk_43_method_22_code 29 = .ok (.aload_n 0, 1) := by decide +kernel
theorem d24_30 : decode jdk_43_method_22_code 30 = .ok (.iload_n 1, 1) := by decide +kernel
theorem d24_31 : decode jdk_43_method_22_code 31 = .ok (.iload_n 2, 1) := by decide +kernel
theorem d24_32 : decode jdk_43_method_22_code 32 = .ok (.iload_n 3, 1) := by decide +kernel
theorem d24_33 : decode jdk_43_method_22_code 33 = .ok (.invokestatic 95, 3) := by decide +kernel
theorem d24_36 : decode jdk_43_method_22_code 36 = .ok (.ireturn, 1) := by decide +kernel
def Qlix (Z : State) (G1 : Int32) (fm : Value) (b : Addr) (kb : ClassId) (z : Int32) (vs : List Value) (cd : Int32) (cs : List Int32) (nn : Int32) (h0 : Heap) (n0 : Nat) (v : Option Value) (h : Heap) (L : List Loc) : Prop := ∃ r : Int32, v = some (.int r) ∧ Fr n0 L ∧ h = h0 ∧ own_rs cs r
theorem ef_jdk_43_method_22_code_RIII (m : MethodId) (x0 : Addr) (x1 : Int32) (x2 : Int32) (x3 : Int32) : entryFrame m #[.ref x0, .int x1, .int x2, .int x3] 4 = mkF m 0 #[.val (.ref x0), .val (.int x1), .val (.int x2), .val (.int x3)] [] := by first | (simp [entryFrame, mkF, argsToLocals, Value.category]; done) | rfl
abbrev y24 : MethodName := ⟨"java/lang/StringLatin1", "indexOf", "([BIII)I"⟩
theorem rmlix_z (l : Launch) (Z : State) (a0 : Array Value) (G1 : Int32) (fm : Value) (hG : Glob Z a0 G1 fm) (ws : List Jvm.Cond) (b : Addr) (kb : ClassId) (z : Int32) (vs : List Value) (cd : Int32) (cs : List Int32) (nn : Int32) (h0 : Heap) (n0 : Nat) (Z0 : n0 ≤ h0.size) (X00 : Old Z n0 h0) (V_b : Arv Z h0 b kb .byte z vs (.int 0)) (hL : cd = 0 ∧ z = Int32.ofNat cs.length ∧ vs = cs.map own_lb ∧ ∀ c ∈ cs, ¬ (255 : Int32) < c) (hn : cs.length < 5) (hu : ∀ c ∈ cs, own_u16 c) (en : nn = Int32.ofNat cs.length) (z0 : ¬ ((0 : Int32) < nn)) (hrs : own_rs cs (-1 : Int32)) :
    Met l Z h0 y24 jdk_43_method_22_code 4 (some .int) ws (Room.mk 1 0 0 17) #[.ref b, .int 45, .int 0, .int nn] (Qlix Z G1 fm b kb z vs cd cs nn h0 n0) := by
  obtain ⟨hw, O_cs, P_cs, O_as, O_hi, O_lo, O_fm, R_fm⟩ := id hG
  have W := @own_W _ _ hw
  refine own_go "java/lang/StringLatin1" rfl (plainFor_of_name pn_java_lang_StringLatin1) ?_
  intro p e s m below meth c s₁ Bd hx hby hml hown hnm X0 e0 hZ
  have hB := @hb _ _ hby
  have N0 := Fr.nil n0
  -- pc 1: java/lang/StringLatin1.canEncode
  obtain ⟨_, _, ⟨T482, L482, k482, n482⟩, -, X482, ⟨Lc482, hQ482, l482, y482, z482⟩, st482⟩ := Jvm.LawKit.callS X0 hx (y := y16) hown (mvT hZ (W 64 rfl)) (mvT hZ (W 65 rfl)) (mvT hZ (W 62 rfl)) (mvT hZ (W 66 rfl)) (by decide) (backOf (W := 0) (rmcen l Z a0 G1 fm hG [] h0 n0 Z0 X00) hZ (W 66 rfl) (W 62 rfl) (by decide) (by decide)) (g := (mkF m 1 #[.val (.ref b), .val (.int 45), .val (.int 0), .val (.int nn)] [.int 45])) rfl (by rw [hml]; rfl) (argsL := [.int 45]) (rest := []) (lenOf pd__I_Z rfl) rfl (by show 2 * 0 + _ ≤ _; exact Nat.le_of_eq rfl) (hB d24_1) (fun _ _ => ⟨rfl, e0, (by decide : 0 + 0 ≤ _), (by decide : 0 + 0 ≤ _)⟩)
  dsimp only [Pt.U, Pt.locs, Pt.cells, Pt.slots] at X482 l482 y482 z482 st482 hQ482
  subst l482 y482 z482
  obtain ⟨rfl, N482q, eq482⟩ := hQ482
  have N482 := Fr.app N0 N482q
  -- pc 11: java/lang/Math.max
  obtain ⟨_, _, ⟨T483, L483, k483, n483⟩, -, X483, ⟨Lc483, hQ483, l483, y483, z483⟩, st483⟩ := Jvm.LawKit.callS X482 hx (y := y14) hown (mvT hZ (W 67 rfl)) (mvT hZ (W 68 rfl)) (mvT hZ (W 69 rfl)) (mvT hZ (W 70 rfl)) (by decide) (backOf (W := 0) (rmmx l Z a0 G1 fm hG [] h0 n0 Z0 X00) hZ (W 70 rfl) (W 69 rfl) (by decide) (by decide)) (g := (mkF m 11 #[.val (.ref b), .val (.int 45), .val (.int 0), .val (.int nn)] [.int 0, .int 0])) rfl (by rw [hml]; rfl) (argsL := [.int 0, .int 0]) (rest := []) (lenOf pd__II_I rfl) rfl (by show 2 * 0 + _ ≤ _; exact Nat.le_of_eq rfl) (hB d24_11) (fun _ _ => ⟨rfl, eq482, (by decide : 0 + 0 ≤ _), (by decide : 0 + 0 ≤ _)⟩)
  dsimp only [Pt.U, Pt.locs, Pt.cells, Pt.slots] at X483 l483 y483 z483 st483 hQ483
  subst l483 y483 z483
  obtain ⟨rfl, N483q, eq483⟩ := hQ483
  have N483 := Fr.app N482 N483q
  obtain ⟨clq484, Arq484, qaq484, Sq484, Nq484, Hq484, Gq484⟩ := id V_b
  -- pc 18: java/lang/Math.min
  obtain ⟨_, _, ⟨T485, L485, k485, n485⟩, -, X485, ⟨Lc485, hQ485, l485, y485, z485⟩, st485⟩ := Jvm.LawKit.callS X483 hx (y := y15) hown (mvT hZ (W 71 rfl)) (mvT hZ (W 72 rfl)) (mvT hZ (W 69 rfl)) (mvT hZ (W 73 rfl)) (by decide) (backOf (W := 0) (rmmn l Z a0 G1 fm hG [] nn z h0 n0 Z0 X00 (own_irr (en.trans hL.2.1.symm))) hZ (W 73 rfl) (W 69 rfl) (by decide) (by decide)) (g := (mkF m 18 #[.val (.ref b), .val (.int 45), .val (.int 0), .val (.int nn)] [.int z, .int nn])) rfl (by rw [hml]; rfl) (argsL := [.int nn, .int z]) (rest := []) (lenOf pd__II_I rfl) rfl (by show 2 * 0 + _ ≤ _; exact Nat.le_of_eq rfl) (hB d24_18) (fun _ _ => ⟨rfl, eq483, (by decide : 0 + 0 ≤ _), (by decide : 0 + 0 ≤ _)⟩)
  dsimp only [Pt.U, Pt.locs, Pt.cells, Pt.slots] at X485 l485 y485 z485 st485 hQ485
  subst l485 y485 z485
  obtain ⟨rfl, N485q, eq485⟩ := hQ485
  have N485 := Fr.app N483 N485q
  obtain ⟨fs, hr, hrun, hended, hW, hsame⟩ := X485.leave (v := some (.int (-1))) (fun h => by rw [Bd.returns] at h; cases h)
  refine ⟨_, _, castTop (ef_jdk_43_method_22_code_RIII m b (45 : Int32) (0 : Int32) nn) ?_, hrun, hended, _, _, rfl, ?_, ⟨_, rfl⟩, hW, hsame.mono (own_ble rfl) (own_ble rfl)⟩
  · show Steps _ _ _ (s₁.setTop (mkF m 0 #[.val (.ref b), .val (.int 45), .val (.int 0), .val (.int nn)] [])) _
    refine XS.iloadN X0.here hx rfl (hB d24_0) rfl ?_
    refine st482 _ ?_
    show Steps _ _ _ (T482.setTop (mkF m 4 #[.val (.ref b), .val (.int 45), .val (.int 0), .val (.int nn)] [.int 1])) _
    refine XS.ifYes X482.here hx rfl (pc0 := 4) (pc' := 9) rfl (hB d24_4) rfl ((if0 _ _).trans (feq (by decide : ¬ ((1 : Int32) = (0 : Int32)))).2) (by decide) (by decide) ?_
    refine XS.iloadN X482.here hx rfl (hB d24_9) rfl ?_
    refine XS.iconst X482.here hx rfl (hB d24_10) ?_
    refine st483 _ ?_
    show Steps _ _ _ (T483.setTop (mkF m 14 #[.val (.ref b), .val (.int 45), .val (.int 0), .val (.int nn)] [.int 0])) _
    refine XS.istoreN X483.here hx rfl (hB d24_14) rfl (l' := #[.val (.ref b), .val (.int 45), .val (.int 0), .val (.int nn)]) rfl ?_
    refine XS.iloadN X483.here hx rfl (hB d24_15) rfl ?_
    refine XS.aloadN X483.here hx rfl (hB d24_16) rfl rfl ?_
    refine X483.arraylength hx (own_cell eq483 Arq484.1) (State.isArrayOf_alike hZ.alike Arq484.2.1) (g := (mkF m 17 #[.val (.ref b), .val (.int 45), .val (.int 0), .val (.int nn)] [.ref b, .int nn])) rfl rfl (hB d24_17) _ ?_
    rw [len_of Sq484 Nq484]
    refine st485 _ ?_
    show Steps _ _ _ (T485.setTop (mkF m 21 #[.val (.ref b), .val (.int 45), .val (.int 0), .val (.int nn)] [.int nn])) _
    refine XS.istoreN X485.here hx rfl (hB d24_21) rfl (l' := #[.val (.ref b), .val (.int 45), .val (.int 0), .val (.int nn)]) rfl ?_
    refine XS.iloadN X485.here hx rfl (hB d24_22) rfl ?_
    refine XS.iloadN X485.here hx rfl (hB d24_23) rfl ?_
    refine XS.icmpNo X485.here hx rfl (hB d24_24) rfl (flt (z0 : ¬ ((0 : Int32) < nn))).1 ?_
    refine XS.iconst X485.here hx rfl (hB d24_27) ?_
    exact retOut X485 hx Bd.returns rfl (Or.inl ⟨rfl, Or.inl rfl, _, rfl⟩) (hB d24_28) hr
  · show Qlix Z G1 fm b kb z vs cd cs nn h0 n0 _ T485.heap _
    rw [eq485]
    exact ⟨(-1 : Int32), rfl, N485, rfl, hrs⟩
theorem rmlix_p (l : Launch) (Z : State) (a0 : Array Value) (G1 : Int32) (fm : Value) (hG : Glob Z a0 G1 fm) (ws : List Jvm.Cond) (b : Addr) (kb : ClassId) (z : Int32) (vs : List Value) (cd : Int32) (cs : List Int32) (nn : Int32) (h0 : Heap) (n0 : Nat) (Z0 : n0 ≤ h0.size) (X00 : Old Z n0 h0) (V_b : Arv Z h0 b kb .byte z vs (.int 0)) (hL : cd = 0 ∧ z = Int32.ofNat cs.length ∧ vs = cs.map own_lb ∧ ∀ c ∈ cs, ¬ (255 : Int32) < c) (hn : cs.length < 5) (hu : ∀ c ∈ cs, own_u16 c) (en : nn = Int32.ofNat cs.length) (z1 : (0 : Int32) < nn) :
    Met l Z h0 y24 jdk_43_method_22_code 4 (some .int) ws (Room.mk 1 0 0 17) #[.ref b, .int 45, .int 0, .int nn] (Qlix Z G1 fm b kb z vs cd cs nn h0 n0) := by
  obtain ⟨hw, O_cs, P_cs, O_as, O_hi, O_lo, O_fm, R_fm⟩ := id hG
  have W := @own_W _ _ hw
  refine own_go "java/lang/StringLatin1" rfl (plainFor_of_name pn_java_lang_StringLatin1) ?_
  intro p e s m below meth c s₁ Bd hx hby hml hown hnm X0 e0 hZ
  have hB := @hb _ _ hby
  have N0 := Fr.nil n0
  -- pc 1: java/lang/StringLatin1.canEncode
  obtain ⟨_, _, ⟨T486, L486, k486, n486⟩, -, X486, ⟨Lc486, hQ486, l486, y486, z486⟩, st486⟩ := Jvm.LawKit.callS X0 hx (y := y16) hown (mvT hZ (W 64 rfl)) (mvT hZ (W 65 rfl)) (mvT hZ (W 62 rfl)) (mvT hZ (W 66 rfl)) (by decide) (backOf (W := 0) (rmcen l Z a0 G1 fm hG [] h0 n0 Z0 X00) hZ (W 66 rfl) (W 62 rfl) (by decide) (by decide)) (g := (mkF m 1 #[.val (.ref b), .val (.int 45), .val (.int 0), .val (.int nn)] [.int 45])) rfl (by rw [hml]; rfl) (argsL := [.int 45]) (rest := []) (lenOf pd__I_Z rfl) rfl (by show 2 * 0 + _ ≤ _; exact Nat.le_of_eq rfl) (hB d24_1) (fun _ _ => ⟨rfl, e0, (by decide : 0 + 0 ≤ _), (by decide : 0 + 0 ≤ _)⟩)
  dsimp only [Pt.U, Pt.locs, Pt.cells, Pt.slots] at X486 l486 y486 z486 st486 hQ486
  subst l486 y486 z486
  obtain ⟨rfl, N486q, eq486⟩ := hQ486
  have N486 := Fr.app N0 N486q
  -- pc 11: java/lang/Math.max
  obtain ⟨_, _, ⟨T487, L487, k487, n487⟩, -, X487, ⟨Lc487, hQ487, l487, y487, z487⟩, st487⟩ := Jvm.LawKit.callS X486 hx (y := y14) hown (mvT hZ (W 67 rfl)) (mvT hZ (W 68 rfl)) (mvT hZ (W 69 rfl)) (mvT hZ (W 70 rfl)) (by decide) (backOf (W := 0) (rmmx l Z a0 G1 fm hG [] h0 n0 Z0 X00) hZ (W 70 rfl) (W 69 rfl) (by decide) (by decide)) (g := (mkF m 11 #[.val (.ref b), .val (.int 45), .val (.int 0), .val (.int nn)] [.int 0, .int 0])) rfl (by rw [hml]; rfl) (argsL := [.int 0, .int 0]) (rest := []) (lenOf pd__II_I rfl) rfl (by show 2 * 0 + _ ≤ _; exact Nat.le_of_eq rfl) (hB d24_11) (fun _ _ => ⟨rfl, eq486, (by decide : 0 + 0 ≤ _), (by decide : 0 + 0 ≤ _)⟩)
  dsimp only [Pt.U, Pt.locs, Pt.cells, Pt.slots] at X487 l487 y487 z487 st487 hQ487
  subst l487 y487 z487
  obtain ⟨rfl, N487q, eq487⟩ := hQ487
  have N487 := Fr.app N486 N487q
  obtain ⟨clq488, Arq488, qaq488, Sq488, Nq488, Hq488, Gq488⟩ := id V_b
  -- pc 18: java/lang/Math.min
  obtain ⟨_, _, ⟨T489, L489, k489, n489⟩, -, X489, ⟨Lc489, hQ489, l489, y489, z489⟩, st489⟩ := Jvm.LawKit.callS X487 hx (y := y15) hown (mvT hZ (W 71 rfl)) (mvT hZ (W 72 rfl)) (mvT hZ (W 69 rfl)) (mvT hZ (W 73 rfl)) (by decide) (backOf (W := 0) (rmmn l Z a0 G1 fm hG [] nn z h0 n0 Z0 X00 (own_irr (en.trans hL.2.1.symm))) hZ (W 73 rfl) (W 69 rfl) (by decide) (by decide)) (g := (mkF m 18 #[.val (.ref b), .val (.int 45), .val (.int 0), .val (.int nn)] [.int z, .int nn])) rfl (by rw [hml]; rfl) (argsL := [.int nn, .int z]) (rest := []) (lenOf pd__II_I rfl) rfl (by show 2 * 0 + _ ≤ _; exact Nat.le_of_eq rfl) (hB d24_18) (fun _ _ => ⟨rfl, eq487, (by decide : 0 + 0 ≤ _), (by decide : 0 + 0 ≤ _)⟩)
  dsimp only [Pt.U, Pt.locs, Pt.cells, Pt.slots] at X489 l489 y489 z489 st489 hQ489
  subst l489 y489 z489
  obtain ⟨rfl, N489q, eq489⟩ := hQ489
  have N489 := Fr.app N487 N489q
  -- pc 33: java/lang/StringLatin1.indexOfChar
  obtain ⟨_, _, ⟨T490, L490, k490, n490⟩, -, X490, ⟨Lc490, hQ490, l490, y490, z490⟩, st490⟩ := Jvm.LawKit.callS X489 hx (y := y20) hown (mvT hZ (W 84 rfl)) (mvT hZ (W 85 rfl)) (mvT hZ (W 62 rfl)) (mvT hZ (W 86 rfl)) (by decide) (backOf (W := 0) (rmicL l Z a0 G1 fm hG [] b kb z vs cd cs nn h0 n0 Z0 X00 V_b hL hn hu en z1) hZ (W 86 rfl) (W 62 rfl) (by decide) (by decide)) (g := (mkF m 33 #[.val (.ref b), .val (.int 45), .val (.int 0), .val (.int nn)] [.int nn, .int 0, .int 45, .ref b])) rfl (by rw [hml]; rfl) (argsL := [.ref b, .int 45, .int 0, .int nn]) (rest := []) (lenOf pd___BIII_I rfl) rfl (by show 2 * 0 + _ ≤ _; exact Nat.le_of_eq rfl) (hB d24_33) (fun _ _ => ⟨rfl, eq489, (by decide : 0 + 0 ≤ _), (by decide : 0 + 0 ≤ _)⟩)
  dsimp only [Pt.U, Pt.locs, Pt.cells, Pt.slots] at X490 l490 y490 z490 st490 hQ490
  subst l490 y490 z490
  obtain ⟨r_490, rfl, N490q, eq490, f490_0⟩ := hQ490
  have N490 := Fr.app N489 N490q
  obtain ⟨fs, hr, hrun, hended, hW, hsame⟩ := X490.leave (v := some (.int r_490)) (fun h => by rw [Bd.returns] at h; cases h)
  refine ⟨_, _, castTop (ef_jdk_43_method_22_code_RIII m b (45 : Int32) (0 : Int32) nn) ?_, hrun, hended, _, _, rfl, ?_, ⟨_, rfl⟩, hW, hsame.mono (own_ble rfl) (own_ble rfl)⟩
  · show Steps _ _ _ (s₁.setTop (mkF m 0 #[.val (.ref b), .val (.int 45), .val (.int 0), .val (.int nn)] [])) _
    refine XS.iloadN X0.here hx rfl (hB d24_0) rfl ?_
    refine st486 _ ?_
    show Steps _ _ _ (T486.setTop (mkF m 4 #[.val (.ref b), .val (.int 45), .val (.int 0), .val (.int nn)] [.int 1])) _
    refine XS.ifYes X486.here hx rfl (pc0 := 4) (pc' := 9) rfl (hB d24_4) rfl ((if0 _ _).trans (feq (by decide : ¬ ((1 : Int32) = (0 : Int32)))).2) (by decide) (by decide) ?_
    refine XS.iloadN X486.here hx rfl (hB d24_9) rfl ?_
    refine XS.iconst X486.here hx rfl (hB d24_10) ?_
    refine st487 _ ?_
    show Steps _ _ _ (T487.setTop (mkF m 14 #[.val (.ref b), .val (.int 45), .val (.int 0), .val (.int nn)] [.int 0])) _
    refine XS.istoreN X487.here hx rfl (hB d24_14) rfl (l' := #[.val (.ref b), .val (.int 45), .val (.int 0), .val (.int nn)]) rfl ?_
    refine XS.iloadN X487.here hx rfl (hB d24_15) rfl ?_
    refine XS.aloadN X487.here hx rfl (hB d24_16) rfl rfl ?_
    refine X487.arraylength hx (own_cell eq487 Arq488.1) (State.isArrayOf_alike hZ.alike Arq488.2.1) (g := (mkF m 17 #[.val (.ref b), .val (.int 45), .val (.int 0), .val (.int nn)] [.ref b, .int nn])) rfl rfl (hB d24_17) _ ?_
    rw [len_of Sq488 Nq488]
    refine st489 _ ?_
    show Steps _ _ _ (T489.setTop (mkF m 21 #[.val (.ref b), .val (.int 45), .val (.int 0), .val (.int nn)] [.int nn])) _
    refine XS.istoreN X489.here hx rfl (hB d24_21) rfl (l' := #[.val (.ref b), .val (.int 45), .val (.int 0), .val (.int nn)]) rfl ?_
    refine XS.iloadN X489.here hx rfl (hB d24_22) rfl ?_
    refine XS.iloadN X489.here hx rfl (hB d24_23) rfl ?_
    refine XS.icmpYes X489.here hx rfl (pc0 := 24) (pc' := 29) rfl (hB d24_24) rfl (tlt (z1 : (0 : Int32) < nn)).1 (by decide) (by decide) ?_
    refine XS.aloadN X489.here hx rfl (hB d24_29) rfl rfl ?_
    refine XS.iloadN X489.here hx rfl (hB d24_30) rfl ?_
    refine XS.iloadN X489.here hx rfl (hB d24_31) rfl ?_
    refine XS.iloadN X489.here hx rfl (hB d24_32) rfl ?_
    refine st490 _ ?_
    show Steps _ _ _ (T490.setTop (mkF m 36 #[.val (.ref b), .val (.int 45), .val (.int 0), .val (.int nn)] [.int r_490])) _
    exact retOut X490 hx Bd.returns rfl (Or.inl ⟨rfl, Or.inl rfl, _, rfl⟩) (hB d24_36) hr
  · show Qlix Z G1 fm b kb z vs cd cs nn h0 n0 _ T490.heap _
    rw [eq490]
    exact ⟨r_490, rfl, N490, rfl, f490_0⟩
theorem rmlix (l : Launch) (Z : State) (a0 : Array Value) (G1 : Int32) (fm : Value) (hG : Glob Z a0 G1 fm) (ws : List Jvm.Cond) (b : Addr) (kb : ClassId) (z : Int32) (vs : List Value) (cd : Int32) (cs : List Int32) (nn : Int32) (h0 : Heap) (n0 : Nat) (Z0 : n0 ≤ h0.size) (X00 : Old Z n0 h0) (V_b : Arv Z h0 b kb .byte z vs (.int 0)) (hL : cd = 0 ∧ z = Int32.ofNat cs.length ∧ vs = cs.map own_lb ∧ ∀ c ∈ cs, ¬ (255 : Int32) < c) (hn : cs.length < 5) (hu : ∀ c ∈ cs, own_u16 c) (en : nn = Int32.ofNat cs.length) :
    Met l Z h0 y24 jdk_43_method_22_code 4 (some .int) ws (Room.mk 1 0 0 17) #[.ref b, .int 45, .int 0, .int nn] (Qlix Z G1 fm b kb z vs cd cs nn h0 n0) := by
  by_cases z1 : (0 : Int32) < nn
  · exact rmlix_p l Z a0 G1 fm hG ws b kb z vs cd cs nn h0 n0 Z0 X00 V_b hL hn hu en z1
  · have hr : own_rs cs (-1 : Int32) := by
      match cs, hn, en with
      | [], _, _ => exact Or.inl ⟨rfl, rfl⟩
      | [_], _, en => exact absurd (by rw [en]; exact (by decide : (0 : Int32) < Int32.ofNat 1)) z1
      | [_, _], _, en => exact absurd (by rw [en]; exact (by decide : (0 : Int32) < Int32.ofNat 2)) z1
      | [_, _, _], _, en => exact absurd (by rw [en]; exact (by decide : (0 : Int32) < Int32.ofNat 3)) z1
      | [_, _, _, _], _, en => exact absurd (by rw [en]; exact (by decide : (0 : Int32) < Int32.ofNat 4)) z1
      | _ :: _ :: _ :: _ :: _ :: _, hn, _ => exact absurd hn (by simp only [List.length_cons]; omega)
    exact rmlix_z l Z a0 G1 fm hG ws b kb z vs cd cs nn h0 n0 Z0 X00 V_b hL hn hu en z1 hr
theorem d25_0 : decode jdk_42_method_80_code 0 = .ok (.aload_n 0, 1) := by decide +kernel
theorem d25_1 : decode jdk_42_method_80_code 1 = .ok (.invokevirtual 492, 3) := by decide +kernel
theorem pd___Z : parseMethodDescriptor "()Z" = some ⟨[], some .boolean⟩ := by decide +kernel
theorem d25_4 : decode jdk_42_method_80_code 4 = .ok (.ifCond .eq 19, 3) := by decide +kernel
theorem d25_7 : decode jdk_42_method_80_code 7 = .ok (.aload_n 0, 1) := by decide +kernel
theorem d25_8 : decode jdk_42_method_80_code 8 = .ok (.getfield 9, 3) := by decide +kernel
theorem d25_11 : decode jdk_42_method_80_code 11 = .ok (.iload_n 1, 1) := by decide +kernel
theorem d25_12 : decode jdk_42_method_80_code 12 = .ok (.iload_n 2, 1) := by decide +kernel
theorem d25_13 : decode jdk_42_method_80_code 13 = .ok (.aload_n 0, 1) := by decide +kernel
theorem d25_14 : decode jdk_42_method_80_code 14 = .ok (.invokevirtual 505, 3) := by decide +kernel
theorem pd___I : parseMethodDescriptor "()I" = some ⟨[], some .int⟩ := by decide +kernel
theorem d25_17 : decode jdk_42_method_80_code 17 = .ok (.invokestatic 637, 3) := by decide +kernel
theorem d25_20 : decode jdk_42_method_80_code 20 = .ok (.goto 16, 3) := by decide +kernel
theorem d25_36 : decode jdk_42_method_80_code 36 = .ok (.ireturn, 1) := by decide +kernel
theorem d25_23 : decode jdk_42_method_80_code 23 = .ok (.aload_n 0, 1) := by decide +kernel
theorem d25_24 : decode jdk_42_method_80_code 24 = .ok (.getfield 9, 3) := by decide +kernel
theorem d25_27 : decode jdk_42_method_80_code 27 = .ok (.iload_n 1, 1) := by decide +kernel
theorem d25_28 : decode jdk_42_method_80_code 28 = .ok (.iload_n 2, 1) := by decide +kernel
theorem d25_29 : decode jdk_42_method_80_code 29 = .ok (.aload_n 0, 1) := by decide +kernel
theorem d25_30 : decode jdk_42_method_80_code 30 = .ok (.invokevirtual 505, 3) := by decide +kernel
theorem d25_33 : decode jdk_42_method_80_code 33 = .ok (.invokestatic 640, 3) := by decide +kernel
def Qsii (Z : State) (G1 : Int32) (fm : Value) (a1 : Addr) (b : Addr) (kb : ClassId) (cd : Int32) (z : Int32) (vs : List Value) (cs : List Int32) (nn : Int32) (h0 : Heap) (n0 : Nat) (v : Option Value) (h : Heap) (L : List Loc) : Prop := ∃ r : Int32, v = some (.int r) ∧ Fr n0 L ∧ h = h0 ∧ own_rs cs r
theorem ef_jdk_42_method_80_code_RII (m : MethodId) (x0 : Addr) (x1 : Int32) (x2 : Int32) : entryFrame m #[.ref x0, .int x1, .int x2] 3 = mkF m 0 #[.val (.ref x0), .val (.int x1), .val (.int x2)] [] := by first | (simp [entryFrame, mkF, argsToLocals, Value.category]; done) | rfl
abbrev y25 : MethodName := ⟨"java/lang/String", "indexOf", "(II)I"⟩
theorem rmsii_L (l : Launch) (Z : State) (a0 : Array Value) (G1 : Int32) (fm : Value) (hG : Glob Z a0 G1 fm) (ws : List Jvm.Cond) (a1 : Addr) (b : Addr) (kb : ClassId) (cd : Int32) (z : Int32) (vs : List Value) (cs : List Int32) (nn : Int32) (h0 : Heap) (n0 : Nat) (Z0 : n0 ≤ h0.size) (X00 : Old Z n0 h0) (E_a1 : Exa Z h0 a1 "java/lang/String") (F_coder_a1 : Fld Z h0 a1 "java/lang/String" "coder" "B" (.int cd)) (F_value_a1 : Fld Z h0 a1 "java/lang/String" "value" "[B" (.ref b)) (V_b : Arv Z h0 b kb .byte z vs (.int 0)) (hs : own_str cd z vs cs) (hn : cs.length < 5) (hu : ∀ c ∈ cs, own_u16 c) (en : nn = Int32.ofNat cs.length) (hL : cd = 0 ∧ z = Int32.ofNat cs.length ∧ vs = cs.map own_lb ∧ ∀ c ∈ cs, ¬ (255 : Int32) < c) :
    Met l Z h0 y25 jdk_42_method_80_code 3 (some .int) ws (Room.mk 5 0 0 73) #[.ref a1, .int 45, .int 0] (Qsii Z G1 fm a1 b kb cd z vs cs nn h0 n0) := by
  obtain ⟨hw, O_cs, P_cs, O_as, O_hi, O_lo, O_fm, R_fm⟩ := id hG
  have W := @own_W _ _ hw
  refine own_go "java/lang/String" rfl (plainFor_of_name pn_java_lang_String) ?_
  intro p e s m below meth c s₁ Bd hx hby hml hown hnm X0 e0 hZ
  have hB := @hb _ _ hby
  have N0 := Fr.nil n0
  obtain ⟨cq491, kq491, q491a, q491b, q491c⟩ := isOf hZ e0 E_a1
  -- pc 1: java/lang/String.isLatin1
  obtain ⟨_, _, ⟨T491, L491, k491, n491⟩, -, X491, ⟨Lc491, hQ491, l491, y491, z491⟩, st491⟩ := X0.virtualBack hx (y := y3) (z := y3) hown (mvT hZ (W 44 rfl)) (mvT hZ (W 45 rfl)) (notFace_of_selects (args := #[]) (mvT hZ (W 47 rfl))) (mvT hZ (W 47 rfl)) (mvT hZ (W 46 rfl)) (by decide) (backOf (W := 0) (rmislL l Z a0 G1 fm hG [] a1 cd h0 n0 Z0 X00 F_coder_a1 hL.1) hZ (W 48 rfl) (W 10 rfl) (by decide) (by decide)) q491a q491c (g := (mkF m 1 #[.val (.ref a1), .val (.int 45), .val (.int 0)] [.ref a1])) rfl (by rw [hml]; rfl) (Steps.refl _) (argsL := []) (rest := []) (lenOf pd___Z rfl) rfl (by show 2 * 0 + _ ≤ _; exact Nat.le_of_eq rfl) (hB d25_1) (fun _ _ => ⟨rfl, e0, (by decide : 0 + 0 ≤ _), (by decide : 0 + 0 ≤ _)⟩)
  dsimp only [Pt.U, Pt.locs, Pt.cells, Pt.slots] at X491 l491 y491 z491 st491 hQ491
  subst l491 y491 z491
  obtain ⟨rfl, N491q, eq491⟩ := hQ491
  have N491 := Fr.app N0 N491q
  obtain ⟨T492, X492, e492, st492⟩ := getF X491 hx hZ hown (host := "") (Or.inl (W 28 rfl)) Via.refl eq491 F_value_a1 (g := (mkF m 8 #[.val (.ref a1), .val (.int 45), .val (.int 0)] [.ref a1])) rfl rfl (hB d25_8)
  obtain ⟨cq493, kq493, q493a, q493b, q493c⟩ := isOf hZ e492 E_a1
  -- pc 14: java/lang/String.length
  obtain ⟨_, _, ⟨T493, L493, k493, n493⟩, -, X493, ⟨Lc493, hQ493, l493, y493, z493⟩, st493⟩ := X492.virtualBack hx (y := y5) (z := y5) hown (mvT hZ (W 50 rfl)) (mvT hZ (W 51 rfl)) (notFace_of_selects (args := #[]) (mvT hZ (W 53 rfl))) (mvT hZ (W 53 rfl)) (mvT hZ (W 52 rfl)) (by decide) (backOf (W := 3) (rmsln l Z a0 G1 fm hG [] a1 b kb cd z vs cs nn h0 n0 Z0 X00 E_a1 F_coder_a1 F_value_a1 V_b hs hn en) hZ (W 54 rfl) (W 10 rfl) (by decide) (by decide)) q493a q493c (g := (mkF m 14 #[.val (.ref a1), .val (.int 45), .val (.int 0)] [.ref a1, .int 0, .int 45, .ref b])) rfl (by rw [hml]; rfl) (Steps.refl _) (argsL := []) (rest := [.int 0, .int 45, .ref b]) (lenOf pd___I rfl) rfl (by show 2 * 0 + _ ≤ _; exact Nat.le_of_eq rfl) (hB d25_14) (fun _ _ => ⟨rfl, e492, (by decide : 0 + 0 ≤ _), (by decide : 0 + 0 ≤ _)⟩)
  dsimp only [Pt.U, Pt.locs, Pt.cells, Pt.slots] at X493 l493 y493 z493 st493 hQ493
  subst l493 y493 z493
  obtain ⟨rfl, N493q, eq493⟩ := hQ493
  have N493 := Fr.app N491 N493q
  -- pc 17: java/lang/StringLatin1.indexOf
  obtain ⟨_, _, ⟨T494, L494, k494, n494⟩, -, X494, ⟨Lc494, hQ494, l494, y494, z494⟩, st494⟩ := Jvm.LawKit.callS X493 hx (y := y24) hown (mvT hZ (W 60 rfl)) (mvT hZ (W 61 rfl)) (mvT hZ (W 62 rfl)) (mvT hZ (W 63 rfl)) (by decide) (backOf (W := 0) (rmlix l Z a0 G1 fm hG [] b kb z vs cd cs nn h0 n0 Z0 X00 V_b hL hn hu en) hZ (W 63 rfl) (W 62 rfl) (by decide) (by decide)) (g := (mkF m 17 #[.val (.ref a1), .val (.int 45), .val (.int 0)] [.int nn, .int 0, .int 45, .ref b])) rfl (by rw [hml]; rfl) (argsL := [.ref b, .int 45, .int 0, .int nn]) (rest := []) (lenOf pd___BIII_I rfl) rfl (by show 2 * 0 + _ ≤ _; exact Nat.le_of_eq rfl) (hB d25_17) (fun _ _ => ⟨rfl, eq493, (by decide : 0 + 0 ≤ _), (by decide : 0 + 0 ≤ _)⟩)
  dsimp only [Pt.U, Pt.locs, Pt.cells, Pt.slots] at X494 l494 y494 z494 st494 hQ494
  subst l494 y494 z494
  obtain ⟨r_494, rfl, N494q, eq494, f494_0⟩ := hQ494
  have N494 := Fr.app N493 N494q
  obtain ⟨fs, hr, hrun, hended, hW, hsame⟩ := X494.leave (v := some (.int r_494)) (fun h => by rw [Bd.returns] at h; cases h)
  refine ⟨_, _, castTop (ef_jdk_42_method_80_code_RII m a1 (45 : Int32) (0 : Int32)) ?_, hrun, hended, _, _, rfl, ?_, ⟨_, rfl⟩, hW, hsame.mono (own_ble rfl) (own_ble rfl)⟩
  · show Steps _ _ _ (s₁.setTop (mkF m 0 #[.val (.ref a1), .val (.int 45), .val (.int 0)] [])) _
    refine XS.aloadN X0.here hx rfl (hB d25_0) rfl rfl ?_
    refine st491.trans ?_
    show Steps _ _ _ (T491.setTop (mkF m 4 #[.val (.ref a1), .val (.int 45), .val (.int 0)] [.int 1])) _
    refine XS.ifNo X491.here hx rfl (hB d25_4) rfl ((if0 _ _).trans (feq (by decide : ¬ ((1 : Int32) = (0 : Int32)))).1) ?_
    refine XS.aloadN X491.here hx rfl (hB d25_7) rfl rfl ?_
    refine st492 _ ?_
    show Steps _ _ _ (T492.setTop (mkF m 11 #[.val (.ref a1), .val (.int 45), .val (.int 0)] [.ref b])) _
    refine XS.iloadN X492.here hx rfl (hB d25_11) rfl ?_
    refine XS.iloadN X492.here hx rfl (hB d25_12) rfl ?_
    refine XS.aloadN X492.here hx rfl (hB d25_13) rfl rfl ?_
    refine st493.trans ?_
    show Steps _ _ _ (T493.setTop (mkF m 17 #[.val (.ref a1), .val (.int 45), .val (.int 0)] [.int nn, .int 0, .int 45, .ref b])) _
    refine st494 _ ?_
    show Steps _ _ _ (T494.setTop (mkF m 20 #[.val (.ref a1), .val (.int 45), .val (.int 0)] [.int r_494])) _
    refine XS.goto X494.here hx rfl (pc0 := 20) (pc' := 36) rfl (hB d25_20) (by decide) (by decide) ?_
    exact retOut X494 hx Bd.returns rfl (Or.inl ⟨rfl, Or.inl rfl, _, rfl⟩) (hB d25_36) hr
  · show Qsii Z G1 fm a1 b kb cd z vs cs nn h0 n0 _ T494.heap _
    rw [eq494]
    exact ⟨r_494, rfl, N494, rfl, f494_0⟩
theorem rmsii_W (l : Launch) (Z : State) (a0 : Array Value) (G1 : Int32) (fm : Value) (hG : Glob Z a0 G1 fm) (ws : List Jvm.Cond) (a1 : Addr) (b : Addr) (kb : ClassId) (cd : Int32) (z : Int32) (vs : List Value) (cs : List Int32) (nn : Int32) (h0 : Heap) (n0 : Nat) (Z0 : n0 ≤ h0.size) (X00 : Old Z n0 h0) (E_a1 : Exa Z h0 a1 "java/lang/String") (F_coder_a1 : Fld Z h0 a1 "java/lang/String" "coder" "B" (.int cd)) (F_value_a1 : Fld Z h0 a1 "java/lang/String" "value" "[B" (.ref b)) (V_b : Arv Z h0 b kb .byte z vs (.int 0)) (hs : own_str cd z vs cs) (hn : cs.length < 5) (hu : ∀ c ∈ cs, own_u16 c) (en : nn = Int32.ofNat cs.length) (hc : ¬ (cd = (0 : Int32))) (hz : z = Int32.ofNat (2 * cs.length)) (hv : vs = own_wb cs) :
    Met l Z h0 y25 jdk_42_method_80_code 3 (some .int) ws (Room.mk 5 0 0 73) #[.ref a1, .int 45, .int 0] (Qsii Z G1 fm a1 b kb cd z vs cs nn h0 n0) := by
  obtain ⟨hw, O_cs, P_cs, O_as, O_hi, O_lo, O_fm, R_fm⟩ := id hG
  have W := @own_W _ _ hw
  refine own_go "java/lang/String" rfl (plainFor_of_name pn_java_lang_String) ?_
  intro p e s m below meth c s₁ Bd hx hby hml hown hnm X0 e0 hZ
  have hB := @hb _ _ hby
  have N0 := Fr.nil n0
  obtain ⟨cq495, kq495, q495a, q495b, q495c⟩ := isOf hZ e0 E_a1
  -- pc 1: java/lang/String.isLatin1
  obtain ⟨_, _, ⟨T495, L495, k495, n495⟩, -, X495, ⟨Lc495, hQ495, l495, y495, z495⟩, st495⟩ := X0.virtualBack hx (y := y3) (z := y3) hown (mvT hZ (W 44 rfl)) (mvT hZ (W 45 rfl)) (notFace_of_selects (args := #[]) (mvT hZ (W 47 rfl))) (mvT hZ (W 47 rfl)) (mvT hZ (W 46 rfl)) (by decide) (backOf (W := 0) (rmislW l Z a0 G1 fm hG [] a1 cd h0 n0 Z0 X00 F_coder_a1 hc) hZ (W 48 rfl) (W 10 rfl) (by decide) (by decide)) q495a q495c (g := (mkF m 1 #[.val (.ref a1), .val (.int 45), .val (.int 0)] [.ref a1])) rfl (by rw [hml]; rfl) (Steps.refl _) (argsL := []) (rest := []) (lenOf pd___Z rfl) rfl (by show 2 * 0 + _ ≤ _; exact Nat.le_of_eq rfl) (hB d25_1) (fun _ _ => ⟨rfl, e0, (by decide : 0 + 0 ≤ _), (by decide : 0 + 0 ≤ _)⟩)
  dsimp only [Pt.U, Pt.locs, Pt.cells, Pt.slots] at X495 l495 y495 z495 st495 hQ495
  subst l495 y495 z495
  obtain ⟨rfl, N495q, eq495⟩ := hQ495
  have N495 := Fr.app N0 N495q
  obtain ⟨T496, X496, e496, st496⟩ := getF X495 hx hZ hown (host := "") (Or.inl (W 28 rfl)) Via.refl eq495 F_value_a1 (g := (mkF m 24 #[.val (.ref a1), .val (.int 45), .val (.int 0)] [.ref a1])) rfl rfl (hB d25_24)
  obtain ⟨cq497, kq497, q497a, q497b, q497c⟩ := isOf hZ e496 E_a1
  -- pc 30: java/lang/String.length
  obtain ⟨_, _, ⟨T497, L497, k497, n497⟩, -, X497, ⟨Lc497, hQ497, l497, y497, z497⟩, st497⟩ := X496.virtualBack hx (y := y5) (z := y5) hown (mvT hZ (W 50 rfl)) (mvT hZ (W 51 rfl)) (notFace_of_selects (args := #[]) (mvT hZ (W 53 rfl))) (mvT hZ (W 53 rfl)) (mvT hZ (W 52 rfl)) (by decide) (backOf (W := 3) (rmsln l Z a0 G1 fm hG [] a1 b kb cd z vs cs nn h0 n0 Z0 X00 E_a1 F_coder_a1 F_value_a1 V_b hs hn en) hZ (W 54 rfl) (W 10 rfl) (by decide) (by decide)) q497a q497c (g := (mkF m 30 #[.val (.ref a1), .val (.int 45), .val (.int 0)] [.ref a1, .int 0, .int 45, .ref b])) rfl (by rw [hml]; rfl) (Steps.refl _) (argsL := []) (rest := [.int 0, .int 45, .ref b]) (lenOf pd___I rfl) rfl (by show 2 * 0 + _ ≤ _; exact Nat.le_of_eq rfl) (hB d25_30) (fun _ _ => ⟨rfl, e496, (by decide : 0 + 0 ≤ _), (by decide : 0 + 0 ≤ _)⟩)
  dsimp only [Pt.U, Pt.locs, Pt.cells, Pt.slots] at X497 l497 y497 z497 st497 hQ497
  subst l497 y497 z497
  obtain ⟨rfl, N497q, eq497⟩ := hQ497
  have N497 := Fr.app N495 N497q
  -- pc 33: java/lang/StringUTF16.indexOf
  obtain ⟨_, _, ⟨T498, L498, k498, n498⟩, -, X498, ⟨Lc498, hQ498, l498, y498, z498⟩, st498⟩ := Jvm.LawKit.callS X497 hx (y := y23) hown (mvT hZ (W 106 rfl)) (mvT hZ (W 107 rfl)) (mvT hZ (W 76 rfl)) (mvT hZ (W 108 rfl)) (by decide) (backOf (W := 0) (rmuix l Z a0 G1 fm hG [] b kb z vs cs nn h0 n0 Z0 X00 V_b hz hv hn hu en) hZ (W 108 rfl) (W 76 rfl) (by decide) (by decide)) (g := (mkF m 33 #[.val (.ref a1), .val (.int 45), .val (.int 0)] [.int nn, .int 0, .int 45, .ref b])) rfl (by rw [hml]; rfl) (argsL := [.ref b, .int 45, .int 0, .int nn]) (rest := []) (lenOf pd___BIII_I rfl) rfl (by show 2 * 0 + _ ≤ _; exact Nat.le_of_eq rfl) (hB d25_33) (fun _ _ => ⟨rfl, eq497, (by decide : 0 + 0 ≤ _), (by decide : 0 + 0 ≤ _)⟩)
  dsimp only [Pt.U, Pt.locs, Pt.cells, Pt.slots] at X498 l498 y498 z498 st498 hQ498
  subst l498 y498 z498
  obtain ⟨r_498, rfl, N498q, eq498, f498_0⟩ := hQ498
  have N498 := Fr.app N497 N498q
  obtain ⟨fs, hr, hrun, hended, hW, hsame⟩ := X498.leave (v := some (.int r_498)) (fun h => by rw [Bd.returns] at h; cases h)
  refine ⟨_, _, castTop (ef_jdk_42_method_80_code_RII m a1 (45 : Int32) (0 : Int32)) ?_, hrun, hended, _, _, rfl, ?_, ⟨_, rfl⟩, hW, hsame.mono (own_ble rfl) (own_ble rfl)⟩
  · show Steps _ _ _ (s₁.setTop (mkF m 0 #[.val (.ref a1), .val (.int 45), .val (.int 0)] [])) _
    refine XS.aloadN X0.here hx rfl (hB d25_0) rfl rfl ?_
    refine st495.trans ?_
    show Steps _ _ _ (T495.setTop (mkF m 4 #[.val (.ref a1), .val (.int 45), .val (.int 0)] [.int 0])) _
    refine XS.ifYes X495.here hx rfl (pc0 := 4) (pc' := 23) rfl (hB d25_4) rfl ((if0 _ _).trans (teq (by decide : (0 : Int32) = (0 : Int32))).1) (by decide) (by decide) ?_
    refine XS.aloadN X495.here hx rfl (hB d25_23) rfl rfl ?_
    refine st496 _ ?_
    show Steps _ _ _ (T496.setTop (mkF m 27 #[.val (.ref a1), .val (.int 45), .val (.int 0)] [.ref b])) _
    refine XS.iloadN X496.here hx rfl (hB d25_27) rfl ?_
    refine XS.iloadN X496.here hx rfl (hB d25_28) rfl ?_
    refine XS.aloadN X496.here hx rfl (hB d25_29) rfl rfl ?_
    refine st497.trans ?_
    show Steps _ _ _ (T497.setTop (mkF m 33 #[.val (.ref a1), .val (.int 45), .val (.int 0)] [.int nn, .int 0, .int 45, .ref b])) _
    refine st498 _ ?_
    show Steps _ _ _ (T498.setTop (mkF m 36 #[.val (.ref a1), .val (.int 45), .val (.int 0)] [.int r_498])) _
    exact retOut X498 hx Bd.returns rfl (Or.inl ⟨rfl, Or.inl rfl, _, rfl⟩) (hB d25_36) hr
  · show Qsii Z G1 fm a1 b kb cd z vs cs nn h0 n0 _ T498.heap _
    rw [eq498]
    exact ⟨r_498, rfl, N498, rfl, f498_0⟩
theorem rmsii (l : Launch) (Z : State) (a0 : Array Value) (G1 : Int32) (fm : Value) (hG : Glob Z a0 G1 fm) (ws : List Jvm.Cond) (a1 : Addr) (b : Addr) (kb : ClassId) (cd : Int32) (z : Int32) (vs : List Value) (cs : List Int32) (nn : Int32) (h0 : Heap) (n0 : Nat) (Z0 : n0 ≤ h0.size) (X00 : Old Z n0 h0) (E_a1 : Exa Z h0 a1 "java/lang/String") (F_coder_a1 : Fld Z h0 a1 "java/lang/String" "coder" "B" (.int cd)) (F_value_a1 : Fld Z h0 a1 "java/lang/String" "value" "[B" (.ref b)) (V_b : Arv Z h0 b kb .byte z vs (.int 0)) (hs : own_str cd z vs cs) (hn : cs.length < 5) (hu : ∀ c ∈ cs, own_u16 c) (en : nn = Int32.ofNat cs.length) :
    Met l Z h0 y25 jdk_42_method_80_code 3 (some .int) ws (Room.mk 5 0 0 73) #[.ref a1, .int 45, .int 0] (Qsii Z G1 fm a1 b kb cd z vs cs nn h0 n0) := by
  have hs' := hs
  rcases hs' with hL | ⟨e1, hz, hv⟩
  · exact rmsii_L l Z a0 G1 fm hG ws a1 b kb cd z vs cs nn h0 n0 Z0 X00 E_a1 F_coder_a1 F_value_a1 V_b hs hn hu en hL
  · exact rmsii_W l Z a0 G1 fm hG ws a1 b kb cd z vs cs nn h0 n0 Z0 X00 E_a1 F_coder_a1 F_value_a1 V_b hs hn hu en (by rw [e1]; decide) hz hv
theorem d26_0 : decode jdk_42_method_79_code 0 = .ok (.aload_n 0, 1) := by decide +kernel
theorem d26_1 : decode jdk_42_method_79_code 1 = .ok (.iload_n 1, 1) := by decide +kernel
theorem d26_2 : decode jdk_42_method_79_code 2 = .ok (.iconst 0, 1) := by decide +kernel
theorem d26_3 : decode jdk_42_method_79_code 3 = .ok (.invokevirtual 633, 3) := by decide +kernel
theorem d26_6 : decode jdk_42_method_79_code 6 = .ok (.ireturn, 1) := by decide +kernel
def Qsi (Z : State) (G1 : Int32) (fm : Value) (a1 : Addr) (b : Addr) (kb : ClassId) (cd : Int32) (z : Int32) (vs : List Value) (cs : List Int32) (nn : Int32) (h0 : Heap) (n0 : Nat) (v : Option Value) (h : Heap) (L : List Loc) : Prop := ∃ r : Int32, v = some (.int r) ∧ Fr n0 L ∧ h = h0 ∧ own_rs cs r
theorem ef_jdk_42_method_79_code_RI (m : MethodId) (x0 : Addr) (x1 : Int32) : entryFrame m #[.ref x0, .int x1] 2 = mkF m 0 #[.val (.ref x0), .val (.int x1)] [] := by first | (simp [entryFrame, mkF, argsToLocals, Value.category]; done) | rfl
abbrev y26 : MethodName := ⟨"java/lang/String", "indexOf", "(I)I"⟩
theorem rmsi (l : Launch) (Z : State) (a0 : Array Value) (G1 : Int32) (fm : Value) (hG : Glob Z a0 G1 fm) (ws : List Jvm.Cond) (a1 : Addr) (b : Addr) (kb : ClassId) (cd : Int32) (z : Int32) (vs : List Value) (cs : List Int32) (nn : Int32) (h0 : Heap) (n0 : Nat) (Z0 : n0 ≤ h0.size) (X00 : Old Z n0 h0) (E_a1 : Exa Z h0 a1 "java/lang/String") (F_coder_a1 : Fld Z h0 a1 "java/lang/String" "coder" "B" (.int cd)) (F_value_a1 : Fld Z h0 a1 "java/lang/String" "value" "[B" (.ref b)) (V_b : Arv Z h0 b kb .byte z vs (.int 0)) (hs : own_str cd z vs cs) (hn : cs.length < 5) (hu : ∀ c ∈ cs, own_u16 c) (en : nn = Int32.ofNat cs.length) :
    Met l Z h0 y26 jdk_42_method_79_code 2 (some .int) ws (Room.mk 6 0 0 87) #[.ref a1, .int 45] (Qsi Z G1 fm a1 b kb cd z vs cs nn h0 n0) := by
  obtain ⟨hw, O_cs, P_cs, O_as, O_hi, O_lo, O_fm, R_fm⟩ := id hG
  have W := @own_W _ _ hw
  refine own_go "java/lang/String" rfl (plainFor_of_name pn_java_lang_String) ?_
  intro p e s m below meth c s₁ Bd hx hby hml hown hnm X0 e0 hZ
  have hB := @hb _ _ hby
  have N0 := Fr.nil n0
  obtain ⟨cq499, kq499, q499a, q499b, q499c⟩ := isOf hZ e0 E_a1
  -- pc 3: java/lang/String.indexOf
  obtain ⟨_, _, ⟨T499, L499, k499, n499⟩, -, X499, ⟨Lc499, hQ499, l499, y499, z499⟩, st499⟩ := X0.virtualBack hx (y := y25) (z := y25) hown (mvT hZ (W 39 rfl)) (mvT hZ (W 40 rfl)) (notFace_of_selects (args := #[]) (mvT hZ (W 42 rfl))) (mvT hZ (W 42 rfl)) (mvT hZ (W 41 rfl)) (by decide) (backOf (W := 0) (rmsii l Z a0 G1 fm hG [] a1 b kb cd z vs cs nn h0 n0 Z0 X00 E_a1 F_coder_a1 F_value_a1 V_b hs hn hu en) hZ (W 43 rfl) (W 10 rfl) (by decide) (by decide)) q499a q499c (g := (mkF m 3 #[.val (.ref a1), .val (.int 45)] [.int 0, .int 45, .ref a1])) rfl (by rw [hml]; rfl) (Steps.refl _) (argsL := [.int 45, .int 0]) (rest := []) (lenOf pd__II_I rfl) rfl (by show 2 * 0 + _ ≤ _; exact Nat.le_of_eq rfl) (hB d26_3) (fun _ _ => ⟨rfl, e0, (by decide : 0 + 0 ≤ _), (by decide : 0 + 0 ≤ _)⟩)
  dsimp only [Pt.U, Pt.locs, Pt.cells, Pt.slots] at X499 l499 y499 z499 st499 hQ499
  subst l499 y499 z499
  obtain ⟨r_499, rfl, N499q, eq499, f499_0⟩ := hQ499
  have N499 := Fr.app N0 N499q
  obtain ⟨fs, hr, hrun, hended, hW, hsame⟩ := X499.leave (v := some (.int r_499)) (fun h => by rw [Bd.returns] at h; cases h)
  refine ⟨_, _, castTop (ef_jdk_42_method_79_code_RI m a1 (45 : Int32)) ?_, hrun, hended, _, _, rfl, ?_, ⟨_, rfl⟩, hW, hsame.mono (own_ble rfl) (own_ble rfl)⟩
  · show Steps _ _ _ (s₁.setTop (mkF m 0 #[.val (.ref a1), .val (.int 45)] [])) _
    refine XS.aloadN X0.here hx rfl (hB d26_0) rfl rfl ?_
    refine XS.iloadN X0.here hx rfl (hB d26_1) rfl ?_
    refine XS.iconst X0.here hx rfl (hB d26_2) ?_
    refine st499.trans ?_
    show Steps _ _ _ (T499.setTop (mkF m 6 #[.val (.ref a1), .val (.int 45)] [.int r_499])) _
    exact retOut X499 hx Bd.returns rfl (Or.inl ⟨rfl, Or.inl rfl, _, rfl⟩) (hB d26_6) hr
  · show Qsi Z G1 fm a1 b kb cd z vs cs nn h0 n0 _ T499.heap _
    rw [eq499]
    exact ⟨r_499, rfl, N499, rfl, f499_0⟩
theorem d27_0 : decode prog_36_method_4_code 0 = .ok (.aload_n 0, 1) := by decide +kernel
theorem d27_1 : decode prog_36_method_4_code 1 = .ok (.bipush 45, 2) := by decide +kernel
theorem d27_3 : decode prog_36_method_4_code 3 = .ok (.invokevirtual 28, 3) := by decide +kernel
theorem d27_6 : decode prog_36_method_4_code 6 = .ok (.ifCond .lt 7, 3) := by decide +kernel
theorem d27_13 : decode prog_36_method_4_code 13 = .ok (.iconst 0, 1) := by decide +kernel
theorem d27_9 : decode prog_36_method_4_code 9 = .ok (.iconst 1, 1) := by decide +kernel
theorem d27_10 : decode prog_36_method_4_code 10 = .ok (.goto 4, 3) := by decide +kernel
theorem d27_14 : decode prog_36_method_4_code 14 = .ok (.ireturn, 1) := by decide +kernel
def Qiw (Z : State) (G1 : Int32) (fm : Value) (a1 : Addr) (b : Addr) (kb : ClassId) (cd : Int32) (z : Int32) (vs : List Value) (cs : List Int32) (nn : Int32) (h0 : Heap) (n0 : Nat) (v : Option Value) (h : Heap) (L : List Loc) : Prop := v = some (.int (own_has cs)) ∧ Fr n0 L ∧ h = h0
theorem ef_prog_36_method_4_code_R (m : MethodId) (x0 : Addr) : entryFrame m #[.ref x0] 1 = mkF m 0 #[.val (.ref x0)] [] := by first | (simp [entryFrame, mkF, argsToLocals, Value.category]; done) | rfl
abbrev y27 : MethodName := ⟨"com/example/label_lattice/labellattice/Range", "isWrittenAsRange", "(Ljava/lang/String;)Z"⟩
theorem pn_com_example_label_lattice_labellattice_Range : plainName "com/example/label_lattice/labellattice/Range" = true := by first | (simp [plainName, overriddenIn]; done) | decide +kernel
theorem rmiw (l : Launch) (Z : State) (a0 : Array Value) (G1 : Int32) (fm : Value) (hG : Glob Z a0 G1 fm) (ws : List Jvm.Cond) (a1 : Addr) (b : Addr) (kb : ClassId) (cd : Int32) (z : Int32) (vs : List Value) (cs : List Int32) (nn : Int32) (h0 : Heap) (n0 : Nat) (Z0 : n0 ≤ h0.size) (X00 : Old Z n0 h0) (E_a1 : Exa Z h0 a1 "java/lang/String") (F_coder_a1 : Fld Z h0 a1 "java/lang/String" "coder" "B" (.int cd)) (F_value_a1 : Fld Z h0 a1 "java/lang/String" "value" "[B" (.ref b)) (V_b : Arv Z h0 b kb .byte z vs (.int 0)) (hs : own_str cd z vs cs) (hn : cs.length < 5) (hu : ∀ c ∈ cs, own_u16 c) (en : nn = Int32.ofNat cs.length) :
    Met l Z h0 y27 prog_36_method_4_code 1 (some .boolean) ws (Room.mk 7 0 0 100) #[.ref a1] (Qiw Z G1 fm a1 b kb cd z vs cs nn h0 n0) := by
  obtain ⟨hw, O_cs, P_cs, O_as, O_hi, O_lo, O_fm, R_fm⟩ := id hG
  have W := @own_W _ _ hw
  refine own_go "com/example/label_lattice/labellattice/Range" rfl (plainFor_of_name pn_com_example_label_lattice_labellattice_Range) ?_
  intro p e s m below meth c s₁ Bd hx hby hml hown hnm X0 e0 hZ
  have hB := @hb _ _ hby
  have N0 := Fr.nil n0
  obtain ⟨cq500, kq500, q500a, q500b, q500c⟩ := isOf hZ e0 E_a1
  -- pc 3: java/lang/String.indexOf
  obtain ⟨_, _, ⟨T500, L500, k500, n500⟩, -, X500, ⟨Lc500, hQ500, l500, y500, z500⟩, st500⟩ := X0.virtualBack hx (y := y26) (z := y26) hown (mvT hZ (W 34 rfl)) (mvT hZ (W 35 rfl)) (notFace_of_selects (args := #[]) (mvT hZ (W 37 rfl))) (mvT hZ (W 37 rfl)) (mvT hZ (W 36 rfl)) (by decide) (backOf (W := 0) (rmsi l Z a0 G1 fm hG [] a1 b kb cd z vs cs nn h0 n0 Z0 X00 E_a1 F_coder_a1 F_value_a1 V_b hs hn hu en) hZ (W 38 rfl) (W 10 rfl) (by decide) (by decide)) q500a q500c (g := (mkF m 3 #[.val (.ref a1)] [.int 45, .ref a1])) rfl (by rw [hml]; rfl) (Steps.refl _) (argsL := [.int 45]) (rest := []) (lenOf pd__I_I rfl) rfl (by show 2 * 0 + _ ≤ _; exact Nat.le_of_eq rfl) (hB d27_3) (fun _ _ => ⟨rfl, e0, (by decide : 0 + 0 ≤ _), (by decide : 0 + 0 ≤ _)⟩)
  dsimp only [Pt.U, Pt.locs, Pt.cells, Pt.slots] at X500 l500 y500 z500 st500 hQ500
  subst l500 y500 z500
  obtain ⟨r_500, rfl, N500q, eq500, f500_0⟩ := hQ500
  have N500 := Fr.app N0 N500q
  obtain ⟨jv, hjv⟩ : ∃ z : Int32, z = (if r_500 < (0 : Int32) then (0 : Int32) else (1 : Int32)) := ⟨_, rfl⟩
  obtain ⟨fs, hr, hrun, hended, hW, hsame⟩ := X500.leave (v := some (.int (nar .boolean jv))) (fun h => by rw [Bd.returns] at h; cases h)
  refine ⟨_, _, castTop (ef_prog_36_method_4_code_R m a1) ?_, hrun, hended, _, _, rfl, ?_, ⟨_, rfl⟩, hW, hsame.mono (own_ble rfl) (own_ble rfl)⟩
  · show Steps _ _ _ (s₁.setTop (mkF m 0 #[.val (.ref a1)] [])) _
    refine XS.aloadN X0.here hx rfl (hB d27_0) rfl rfl ?_
    refine XS.bipush X0.here hx rfl (hB d27_1) ?_
    refine st500.trans ?_
    show Steps _ _ _ (T500.setTop (mkF m 6 #[.val (.ref a1)] [.int r_500])) _
    refine Steps.trans (?_ : Steps p.tables e below _ (T500.setTop (mkF m 14 #[.val (.ref a1)] [.int jv]))) ?_
    · by_cases hj : r_500 < (0 : Int32)
      · show Steps _ _ _ (T500.setTop (mkF m 6 #[.val (.ref a1)] [.int r_500])) _
        refine XS.ifYes X500.here hx rfl (pc0 := 6) (pc' := 13) rfl (hB d27_6) rfl ((if0 _ _).trans (tlt (hj : r_500 < (0 : Int32))).1) (by decide) (by decide) ?_
        refine XS.iconst X500.here hx rfl (hB d27_13) ?_
        rw [hjv, if_pos hj]
        exact Steps.refl _
      · show Steps _ _ _ (T500.setTop (mkF m 6 #[.val (.ref a1)] [.int r_500])) _
        refine XS.ifNo X500.here hx rfl (hB d27_6) rfl ((if0 _ _).trans (flt (hj : ¬ (r_500 < (0 : Int32)))).1) ?_
        refine XS.iconst X500.here hx rfl (hB d27_9) ?_
        refine XS.goto X500.here hx rfl (pc0 := 10) (pc' := 14) rfl (hB d27_10) (by decide) (by decide) ?_
        rw [hjv, if_neg hj]
        exact Steps.refl _
    show Steps _ _ _ (T500.setTop (mkF m 14 #[.val (.ref a1)] [.int jv])) _
    exact retN X500 hx (t := .boolean) Bd.returns (by simp) (hB d27_14) hr
  · show Qiw Z G1 fm a1 b kb cd z vs cs nn h0 n0 _ T500.heap _
    rw [eq500]
    exact ⟨(by rw [hjv, own_rsj f500_0]), N500, rfl⟩
theorem d28_0 : decode method_2_code 0 = .ok (.iload_n 0, 1) := by decide +kernel
theorem d28_1 : decode method_2_code 1 = .ok (.iconst 1, 1) := by decide +kernel
theorem d28_2 : decode method_2_code 2 = .ok (.iand, 1) := by decide +kernel
theorem d28_3 : decode method_2_code 3 = .ok (.ifCond .eq 6, 3) := by decide +kernel
theorem d28_9 : decode method_2_code 9 = .ok (.iload_n 0, 1) := by decide +kernel
theorem d28_10 : decode method_2_code 10 = .ok (.iconst 1, 1) := by decide +kernel
theorem d28_11 : decode method_2_code 11 = .ok (.iushr, 1) := by decide +kernel
theorem d28_12 : decode method_2_code 12 = .ok (.i2c, 1) := by decide +kernel
theorem d28_13 : decode method_2_code 13 = .ok (.ireturn, 1) := by decide +kernel
theorem d28_6 : decode method_2_code 6 = .ok (.bipush 45, 2) := by decide +kernel
theorem d28_8 : decode method_2_code 8 = .ok (.ireturn, 1) := by decide +kernel
def Qch (Z : State) (G1 : Int32) (fm : Value) (q : Int32) (h0 : Heap) (n0 : Nat) (v : Option Value) (h : Heap) (L : List Loc) : Prop := ∃ r : Int32, v = some (.int r) ∧ Fr n0 L ∧ h = h0 ∧ own_u16 r
theorem ef_method_2_code_I (m : MethodId) (x0 : Int32) : entryFrame m #[.int x0] 1 = mkF m 0 #[.val (.int x0)] [] := by first | (simp [entryFrame, mkF, argsToLocals, Value.category]; done) | rfl
abbrev y28 : MethodName := ⟨"com/example/label_lattice/labellattice/RangeIsWrittenAsRangePinLaw", "ch", "(I)C"⟩
theorem pn_com_example_label_lattice_labellattice_RangeIsWrittenAsRangePinLaw : plainName "com/example/label_lattice/labellattice/RangeIsWrittenAsRangePinLaw" = true := by first | (simp [plainName, overriddenIn]; done) | decide +kernel
theorem rmch_t (l : Launch) (Z : State) (a0 : Array Value) (G1 : Int32) (fm : Value) (hG : Glob Z a0 G1 fm) (ws : List Jvm.Cond) (q : Int32) (h0 : Heap) (n0 : Nat) (Z0 : n0 ≤ h0.size) (X00 : Old Z n0 h0) (hc3 : (q &&& (1 : Int32)) = (0 : Int32)) :
    Met l Z h0 y28 method_2_code 1 (some .char) ws (Room.mk 0 0 0 0) #[.int q] (Qch Z G1 fm q h0 n0) := by
  obtain ⟨hw, O_cs, P_cs, O_as, O_hi, O_lo, O_fm, R_fm⟩ := id hG
  have W := @own_W _ _ hw
  refine own_go "com/example/label_lattice/labellattice/RangeIsWrittenAsRangePinLaw" rfl (plainFor_of_name pn_com_example_label_lattice_labellattice_RangeIsWrittenAsRangePinLaw) ?_
  intro p e s m below meth c s₁ Bd hx hby hml hown hnm X0 e0 hZ
  have hB := @hb _ _ hby
  have N0 := Fr.nil n0
  obtain ⟨fs, hr, hrun, hended, hW, hsame⟩ := X0.leave (v := some (.int (nar .char (((q.toUInt32 >>> ((1 : Int32) &&& 31).toUInt32).toInt32).toUInt32.toUInt16.toUInt32.toInt32)))) (fun h => by rw [Bd.returns] at h; cases h)
  refine ⟨_, _, castTop (ef_method_2_code_I m q) ?_, hrun, hended, _, _, rfl, ?_, ⟨_, rfl⟩, hW, hsame.mono (own_ble rfl) (own_ble rfl)⟩
  · show Steps _ _ _ (s₁.setTop (mkF m 0 #[.val (.int q)] [])) _
    refine XS.iloadN X0.here hx rfl (hB d28_0) rfl ?_
    refine XS.iconst X0.here hx rfl (hB d28_1) ?_
    refine XS.iand X0.here hx rfl (hB d28_2) rfl ?_
    refine XS.ifYes X0.here hx rfl (pc0 := 3) (pc' := 9) rfl (hB d28_3) rfl ((if0 _ _).trans (teq (hc3 : (q &&& (1 : Int32)) = (0 : Int32))).1) (by decide) (by decide) ?_
    refine XS.iloadN X0.here hx rfl (hB d28_9) rfl ?_
    refine XS.iconst X0.here hx rfl (hB d28_10) ?_
    refine XS.iushr X0.here hx rfl (hB d28_11) rfl ?_
    refine XS.i2c X0.here hx rfl (hB d28_12) rfl ?_
    exact retN X0 hx (t := .char) Bd.returns (by simp) (hB d28_13) hr
  · show Qch Z G1 fm q h0 n0 _ s₁.heap _
    rw [e0]
    exact ⟨(nar .char (((q.toUInt32 >>> ((1 : Int32) &&& 31).toUInt32).toInt32).toUInt32.toUInt16.toUInt32.toInt32)), rfl, N0, rfl, own_i2c _⟩
theorem rmch_f (l : Launch) (Z : State) (a0 : Array Value) (G1 : Int32) (fm : Value) (hG : Glob Z a0 G1 fm) (ws : List Jvm.Cond) (q : Int32) (h0 : Heap) (n0 : Nat) (Z0 : n0 ≤ h0.size) (X00 : Old Z n0 h0) (hc3 : ¬ ((q &&& (1 : Int32)) = (0 : Int32))) :
    Met l Z h0 y28 method_2_code 1 (some .char) ws (Room.mk 0 0 0 0) #[.int q] (Qch Z G1 fm q h0 n0) := by
  obtain ⟨hw, O_cs, P_cs, O_as, O_hi, O_lo, O_fm, R_fm⟩ := id hG
  have W := @own_W _ _ hw
  refine own_go "com/example/label_lattice/labellattice/RangeIsWrittenAsRangePinLaw" rfl (plainFor_of_name pn_com_example_label_lattice_labellattice_RangeIsWrittenAsRangePinLaw) ?_
  intro p e s m below meth c s₁ Bd hx hby hml hown hnm X0 e0 hZ
  have hB := @hb _ _ hby
  have N0 := Fr.nil n0
  obtain ⟨fs, hr, hrun, hended, hW, hsame⟩ := X0.leave (v := some (.int 45)) (fun h => by rw [Bd.returns] at h; cases h)
  refine ⟨_, _, castTop (ef_method_2_code_I m q) ?_, hrun, hended, _, _, rfl, ?_, ⟨_, rfl⟩, hW, hsame.mono (own_ble rfl) (own_ble rfl)⟩
  · show Steps _ _ _ (s₁.setTop (mkF m 0 #[.val (.int q)] [])) _
    refine XS.iloadN X0.here hx rfl (hB d28_0) rfl ?_
    refine XS.iconst X0.here hx rfl (hB d28_1) ?_
    refine XS.iand X0.here hx rfl (hB d28_2) rfl ?_
    refine XS.ifNo X0.here hx rfl (hB d28_3) rfl ((if0 _ _).trans (feq (hc3 : ¬ ((q &&& (1 : Int32)) = (0 : Int32)))).1) ?_
    refine XS.bipush X0.here hx rfl (hB d28_6) ?_
    exact retN X0 hx (t := .char) Bd.returns (by simp) (hB d28_8) hr
  · show Qch Z G1 fm q h0 n0 _ s₁.heap _
    rw [e0]
    exact ⟨(45 : Int32), rfl, N0, rfl, ⟨by decide, by decide⟩⟩
theorem rmch (l : Launch) (Z : State) (a0 : Array Value) (G1 : Int32) (fm : Value) (hG : Glob Z a0 G1 fm) (ws : List Jvm.Cond) (q : Int32) (h0 : Heap) (n0 : Nat) (Z0 : n0 ≤ h0.size) (X00 : Old Z n0 h0) :
    Met l Z h0 y28 method_2_code 1 (some .char) ws (Room.mk 0 0 0 0) #[.int q] (Qch Z G1 fm q h0 n0) := by
  by_cases h : (q &&& (1 : Int32)) = (0 : Int32)
  · exact rmch_t l Z a0 G1 fm hG ws q h0 n0 Z0 X00 h
  · exact rmch_f l Z a0 G1 fm hG ws q h0 n0 Z0 X00 h
theorem d29_0 : decode method_3_code 0 = .ok (.iload_n 0, 1) := by decide +kernel
theorem d29_1 : decode method_3_code 1 = .ok (.ifCond .ne 14, 3) := by decide +kernel
theorem d29_4 : decode method_3_code 4 = .ok (.new 7, 3) := by decide +kernel
theorem d29_7 : decode method_3_code 7 = .ok (.dup, 1) := by decide +kernel
theorem d29_8 : decode method_3_code 8 = .ok (.iconst 0, 1) := by decide +kernel
theorem d29_9 : decode method_3_code 9 = .ok (.newarray .char, 2) := by decide +kernel
theorem d29_11 : decode method_3_code 11 = .ok (.invokespecial 9, 3) := by decide +kernel
theorem pd___C_V : parseMethodDescriptor "([C)V" = some ⟨[(.array .char)], none⟩ := by decide +kernel
theorem d29_14 : decode method_3_code 14 = .ok (.areturn, 1) := by decide +kernel
def Qmk0 (Z : State) (G1 : Int32) (fm : Value) (c0 : Int32) (c1 : Int32) (c2 : Int32) (c3 : Int32) (h0 : Heap) (n0 : Nat) (v : Option Value) (h : Heap) (L : List Loc) : Prop := ∃ b : Addr, ∃ t : Addr, ∃ kb : ClassId, ∃ cd : Int32, ∃ z : Int32, ∃ vs : List Value, v = some (.ref b) ∧ Fr n0 L ∧ Keep h0 h [] ∧ h0.size ≤ b ∧ Exa Z h b "java/lang/String" ∧ Fld Z h b "java/lang/String" "coder" "B" (.int cd) ∧ Fld Z h b "java/lang/String" "value" "[B" (.ref t) ∧ Arv Z h t kb .byte z vs (.int 0) ∧ own_str cd z vs []
theorem ef_method_3_code_IIIII (m : MethodId) (x0 : Int32) (x1 : Int32) (x2 : Int32) (x3 : Int32) (x4 : Int32) : entryFrame m #[.int x0, .int x1, .int x2, .int x3, .int x4] 5 = mkF m 0 #[.val (.int x0), .val (.int x1), .val (.int x2), .val (.int x3), .val (.int x4)] [] := by first | (simp [entryFrame, mkF, argsToLocals, Value.category]; done) | rfl
abbrev y29 : MethodName := ⟨"com/example/label_lattice/labellattice/RangeIsWrittenAsRangePinLaw", "make", "(ICCCC)Ljava/lang/String;"⟩
theorem rmmk0 (l : Launch) (Z : State) (a0 : Array Value) (G1 : Int32) (fm : Value) (hG : Glob Z a0 G1 fm) (ws : List Jvm.Cond) (c0 : Int32) (c1 : Int32) (c2 : Int32) (c3 : Int32) (h0 : Heap) (n0 : Nat) (Z0 : n0 ≤ h0.size) (X00 : Old Z n0 h0) (hu0 : own_u16 c0) (hu1 : own_u16 c1) (hu2 : own_u16 c2) (hu3 : own_u16 c3) :
    MetFree l y29 (head1 (Jvm.Cond.code y29 method_3_code 5 (some (.object "java/lang/String")) :: ws) (Room.mk 3 6 12 43)) (fun a U => a = #[.int 0, .int c0, .int c1, .int c2, .int c3] ∧ Z.Warmed39 U.vm ∧ U.heap = h0 ∧ CHv Z own_EL U.vm h0) (fun _ _ _ _ _ => True) (fun _ U o U' => ∃ v L, o = .returned v ∧ Qmk0 Z G1 fm c0 c1 c2 c3 h0 n0 v U'.heap L ∧ CHr Z own_EL U.vm U.heap U'.vm U'.heap ∧ ReturnedEndW U o U' L 6 12) := by
  obtain ⟨hw, O_cs, P_cs, O_as, O_hi, O_lo, O_fm, R_fm⟩ := id hG
  have W := @own_W _ _ hw
  refine MetFree.of_bodySF (plainFor_of_name pn_com_example_label_lattice_labellattice_RangeIsWrittenAsRangePinLaw) hisR ?_
  intro p e s m args below meth c s₁ Bd hml0 hP hK
  obtain ⟨rfl, hZ, hh, hCH⟩ := hP
  have hx := Bd.exec
  have hby := Bd.bytes
  have hB := @hb _ _ hby
  have hml : c.maxLocals = 5 := hml0
  have hown : s.vm.findClass "com/example/label_lattice/labellattice/RangeIsWrittenAsRangePinLaw" = some m.cls := findClass_of_methodNamed Bd.named
  have hnm := (name_of_methodNamed Bd.named Bd.method).1
  have X0 : Stand p l e (Room.mk 3 6 12 43) (s.setVm s.vm) m #[.int 0, .int c0, .int c1, .int c2, .int c3] below meth c s₁ [] 0 0 := Stand.of_body Bd
  have e0 : s₁.heap = h0 := by rw [← hh, Bd.state]; rfl
  have hS0 : s.Since s.vm h0.size := (State.WarmedH.refl s).since _
  have hk0 : h0.size ≤ h0.size := Nat.le_refl _
  have R0 : CHr Z own_EL s.vm h0 s.vm h0 := CHr.refl hCH
  have hEL := own_ew hw
  have N0 := Fr.nil n0
  have pre0 : ∀ t, Steps p.tables e below (s₁.setTop (mkF m 0 #[.val (.int 0), .val (.int c0), .val (.int c1), .val (.int c2), .val (.int c3)] [])) t → Steps p.tables e below (s₁.setTop (entryFrame m #[.int 0, .int c0, .int c1, .int c2, .int c3] 5)) t := fun t kk_ => castTop (ef_method_3_code_IIIII m (0 : Int32) c0 c1 c2 c3) kk_
  obtain ⟨T501, h501, X501, e501, E501, A501, D501, -, st501⟩ := newO X0 hx hZ hown (W 8 rfl) (W 9 rfl) (W 10 rfl) e0 (g := (mkF m 4 #[.val (.int 0), .val (.int c0), .val (.int c1), .val (.int c2), .val (.int c3)] [])) rfl (hB d29_4) (by decide) (by decide)
  obtain ⟨b501, g501⟩ : ∃ z, z = h0.size := ⟨_, rfl⟩
  rw [← g501] at A501 D501 st501
  have Z502 : n0 ≤ h501.size := Nat.le_trans Z0 E501.1
  have K0_502 : Keep h0 h501 [] := (Keep.refl h0 []).ext E501
  have O502 : Old Z n0 h501 := X00.ext E501
  have R502 : CHr Z own_EL s.vm h0 s.vm h501 := R0.trans (CHr.ext E501 R0.1)
  have hk502 : h0.size ≤ h501.size := Nat.le_trans hk0 E501.1
  have lo_b501 : h0.size ≤ b501 := Nat.le_of_eq g501.symm
  have g_b501 : n0 ≤ b501 := Nat.le_trans Z0 lo_b501
  have l0_b501 : h0.size ≤ b501 := Nat.le_trans (Keep.refl h0 []).1 lo_b501
  have F_value_b501 : Fld Z h501 b501 "java/lang/String" "value" "[B" .null := D501 (Or.inr (W 24 rfl)) (ty := (.array .byte)) (by decide)
  have F_coder_b501 : Fld Z h501 b501 "java/lang/String" "coder" "B" (.int 0) := D501 (Or.inr (W 25 rfl)) (ty := .byte) (by decide)
  obtain ⟨T503, h503, k503, X503, e503, E503, A503, st503⟩ := newP X501 hx hZ (W 11 rfl) e501 (g := (mkF m 9 #[.val (.int 0), .val (.int c0), .val (.int c1), .val (.int c2), .val (.int c3)] [.int 0, .ref b501, .ref b501])) rfl (hB d29_9) rfl (by decide) (cap := 0) (by decide) (by decide) (by decide) (by decide)
  obtain ⟨b503, g503⟩ : ∃ z, z = h501.size := ⟨_, rfl⟩
  rw [← g503] at A503 st503
  have Z504 : n0 ≤ h503.size := Nat.le_trans Z502 E503.1
  have K0_504 : Keep h0 h503 [] := K0_502.ext E503
  have O504 : Old Z n0 h503 := O502.ext E503
  have R504 : CHr Z own_EL s.vm h0 s.vm h503 := R502.trans (CHr.ext E503 R502.1)
  have hk504 : h0.size ≤ h503.size := Nat.le_trans hk502 E503.1
  have lo_b503 : h501.size ≤ b503 := Nat.le_of_eq g503.symm
  have g_b503 : n0 ≤ b503 := Nat.le_trans Z502 lo_b503
  have l0_b503 : h0.size ≤ b503 := Nat.le_trans K0_502.1 lo_b503
  have V_b503 : Arv Z h503 b503 k503 .char (0 : Int32) [] (.int 0) := (Arv.new A503 (by decide)).pad (pad_rep [] (.int 0) 0)
  have f506 := (A501.ext E503)
  have f507 := (F_value_b501.ext E503)
  have f508 := (F_coder_b501.ext E503)
  -- pc 11: java/lang/String.<init>
  obtain ⟨_, _, ⟨T505, L505, k505, n505⟩, -, X505, hS505, hG505, ⟨Lc505, hQ505, l505, y505, z505, hC505⟩, st505⟩ := X503.specialBackS hx (y := y13) rfl hown (mvT hZ (W 12 rfl)) (mvT hZ (W 13 rfl)) (mvT hZ (W 14 rfl)) (by decide) (backOfSH (s := s) (W := 1) (rmsz l Z a0 G1 fm hG [] b501 b503 k503 h503 n0 Z504 O504 f506 g_b501 f507 f508 V_b503) hZ (W 14 rfl) (W 10 rfl) (by decide) (by decide) hEL R504.1) (g := (mkF m 11 #[.val (.int 0), .val (.int c0), .val (.int c1), .val (.int c2), .val (.int c3)] [.ref b503, .ref b501, .ref b501])) rfl (by rw [hml]; rfl) (Steps.refl _) (a := b501) (argsL := [.ref b503]) (rest := [.ref b501]) (lenOf pd___C_V rfl) rfl (by show 2 * 0 + _ ≤ _; exact Nat.le_of_eq rfl) (hB d29_11) (fun _ _ => ⟨rfl, e503, (by decide : 2 + 4 ≤ _), (by decide : 4 + 8 ≤ _)⟩)
  dsimp only [Pt.U, Pt.locs, Pt.cells, Pt.slots] at X505 l505 y505 z505 st505 hQ505 hS505 hG505 hC505
  subst l505 y505 z505
  have hZ505 : Z.Warmed39 T505.vm := State.Warmed39.trans (t := s.setVm s.vm) hZ hS505.1
  have hw505 : T505.vm.findClass "com/example/label_lattice/labellattice/RangeIsWrittenAsRangePinLaw" = some m.cls := by rw [hS505.1.alike.findClass]; exact hown
  have hSn505 : s.Since T505.vm T505.heap.size := hS0.trans hS505 (Nat.le_trans hk504 (by have q := hG505; rw [e503] at q; exact q))
  have X505 : Stand p l e _ (s.setVm T505.vm) m _ below meth c T505 _ _ _ := X505
  obtain ⟨t_505, kb_505, rfl, N505q, K505, f505_0, f505_1, f505_2, f505_3⟩ := hQ505
  have N505 := Fr.app N0 N505q
  have Z509 : n0 ≤ T505.heap.size := Nat.le_trans Z504 K505.1
  have K0_509 : Keep h0 T505.heap [] := K0_504.trans K505 (allS (Or.inr l0_b501) all0)
  have O509 : Old Z n0 T505.heap := O504.keep K505 (allS g_b501 all0)
  have hkw505 : T505.heap.size ≤ T505.heap.size := Nat.le_refl _
  have Rb505 : CHr Z own_EL s.vm h0 T505.vm T505.heap := R504.trans hC505
  obtain ⟨fs, hr, hrun, hended, hend⟩ := Jvm.Stand.leaveW (v := some (.ref b501)) X505 hSn505 hkw505 (fun h => by rw [Bd.returns] at h; cases h)
  have hFin := Rb505.trans (CHv.at X505 hZ505 hEL Rb505.1)
  refine ⟨_, _, pre0 _ ?_, hrun, hended, _, _, rfl, ?_, ?_, own_mono hend (own_ble rfl) (own_ble rfl)⟩
  · show Steps _ _ _ (s₁.setTop (mkF m 0 #[.val (.int 0), .val (.int c0), .val (.int c1), .val (.int c2), .val (.int c3)] [])) _
    refine XS.iloadN X0.here hx rfl (hB d29_0) rfl ?_
    refine XS.ifNo X0.here hx rfl (hB d29_1) rfl ((if0 _ _).trans (teq (by decide : (0 : Int32) = (0 : Int32))).2) ?_
    refine st501 _ ?_
    show Steps _ _ _ (T501.setTop (mkF m 7 #[.val (.int 0), .val (.int c0), .val (.int c1), .val (.int c2), .val (.int c3)] [.ref b501])) _
    refine XS.dup X501.here hx rfl (hB d29_7) rfl rfl ?_
    refine XS.iconst X501.here hx rfl (hB d29_8) ?_
    refine st503 _ ?_
    show Steps _ _ _ (T503.setTop (mkF m 11 #[.val (.int 0), .val (.int c0), .val (.int c1), .val (.int c2), .val (.int c3)] [.ref b503, .ref b501, .ref b501])) _
    refine st505.trans ?_
    show Steps _ _ _ (T505.setTop (mkF m 14 #[.val (.int 0), .val (.int c0), .val (.int c1), .val (.int c2), .val (.int c3)] [.ref b501])) _
    exact retOut X505 hx Bd.returns rfl (Or.inr (Or.inr (Or.inr (Or.inr ⟨rfl, rfl, rfl⟩)))) (hB d29_14) hr
  · show Qmk0 Z G1 fm c0 c1 c2 c3 h0 n0 _ T505.heap _
    exact ⟨b501, t_505, kb_505, 0, (0 : Int32), [], rfl, N505, K0_509, l0_b501, f505_0, f505_1, f505_2, f505_3, Or.inl ⟨rfl, rfl, rfl, nofun⟩⟩
  · show CHr Z own_EL s.vm s.heap T505.vm T505.heap
    rw [hh]
    exact hFin
theorem d29_15 : decode method_3_code 15 = .ok (.iload_n 0, 1) := by decide +kernel
theorem d29_16 : decode method_3_code 16 = .ok (.iconst 1, 1) := by decide +kernel
theorem d29_17 : decode method_3_code 17 = .ok (.if_icmp .ne 18, 3) := by decide +kernel
theorem d29_20 : decode method_3_code 20 = .ok (.new 7, 3) := by decide +kernel
theorem d29_23 : decode method_3_code 23 = .ok (.dup, 1) := by decide +kernel
theorem d29_24 : decode method_3_code 24 = .ok (.iconst 1, 1) := by decide +kernel
theorem d29_25 : decode method_3_code 25 = .ok (.newarray .char, 2) := by decide +kernel
theorem d29_27 : decode method_3_code 27 = .ok (.dup, 1) := by decide +kernel
theorem d29_28 : decode method_3_code 28 = .ok (.iconst 0, 1) := by decide +kernel
theorem d29_29 : decode method_3_code 29 = .ok (.iload_n 1, 1) := by decide +kernel
theorem d29_30 : decode method_3_code 30 = .ok (.castore, 1) := by decide +kernel
theorem d29_31 : decode method_3_code 31 = .ok (.invokespecial 9, 3) := by decide +kernel
theorem d29_34 : decode method_3_code 34 = .ok (.areturn, 1) := by decide +kernel
def Qmk1 (Z : State) (G1 : Int32) (fm : Value) (c0 : Int32) (c1 : Int32) (c2 : Int32) (c3 : Int32) (h0 : Heap) (n0 : Nat) (v : Option Value) (h : Heap) (L : List Loc) : Prop := ∃ b : Addr, ∃ t : Addr, ∃ kb : ClassId, ∃ cd : Int32, ∃ z : Int32, ∃ vs : List Value, v = some (.ref b) ∧ Fr n0 L ∧ Keep h0 h [] ∧ h0.size ≤ b ∧ Exa Z h b "java/lang/String" ∧ Fld Z h b "java/lang/String" "coder" "B" (.int cd) ∧ Fld Z h b "java/lang/String" "value" "[B" (.ref t) ∧ Arv Z h t kb .byte z vs (.int 0) ∧ own_str cd z vs [c0]
theorem rmmk1 (l : Launch) (Z : State) (a0 : Array Value) (G1 : Int32) (fm : Value) (hG : Glob Z a0 G1 fm) (ws : List Jvm.Cond) (c0 : Int32) (c1 : Int32) (c2 : Int32) (c3 : Int32) (h0 : Heap) (n0 : Nat) (Z0 : n0 ≤ h0.size) (X00 : Old Z n0 h0) (hu0 : own_u16 c0) (hu1 : own_u16 c1) (hu2 : own_u16 c2) (hu3 : own_u16 c3) :
    Met l Z h0 y29 method_3_code 5 (some (.object "java/lang/String")) ws (Room.mk 6 4 8 88) #[.int 1, .int c0, .int c1, .int c2, .int c3] (Qmk1 Z G1 fm c0 c1 c2 c3 h0 n0) := by
  obtain ⟨hw, O_cs, P_cs, O_as, O_hi, O_lo, O_fm, R_fm⟩ := id hG
  have W := @own_W _ _ hw
  refine own_go "com/example/label_lattice/labellattice/RangeIsWrittenAsRangePinLaw" rfl (plainFor_of_name pn_com_example_label_lattice_labellattice_RangeIsWrittenAsRangePinLaw) ?_
  intro p e s m below meth c s₁ Bd hx hby hml hown hnm X0 e0 hZ
  have hB := @hb _ _ hby
  have N0 := Fr.nil n0
  obtain ⟨T510, h510, X510, e510, E510, A510, D510, -, st510⟩ := newO X0 hx hZ hown (W 8 rfl) (W 9 rfl) (W 10 rfl) e0 (g := (mkF m 20 #[.val (.int 1), .val (.int c0), .val (.int c1), .val (.int c2), .val (.int c3)] [])) rfl (hB d29_20) (by decide) (by decide)
  obtain ⟨b510, g510⟩ : ∃ z, z = h0.size := ⟨_, rfl⟩
  rw [← g510] at A510 D510 st510
  have Z511 : n0 ≤ h510.size := Nat.le_trans Z0 E510.1
  have K0_511 : Keep h0 h510 [] := (Keep.refl h0 []).ext E510
  have O511 : Old Z n0 h510 := X00.ext E510
  have lo_b510 : h0.size ≤ b510 := Nat.le_of_eq g510.symm
  have g_b510 : n0 ≤ b510 := Nat.le_trans Z0 lo_b510
  have l0_b510 : h0.size ≤ b510 := Nat.le_trans (Keep.refl h0 []).1 lo_b510
  have F_value_b510 : Fld Z h510 b510 "java/lang/String" "value" "[B" .null := D510 (Or.inr (W 24 rfl)) (ty := (.array .byte)) (by decide)
  have F_coder_b510 : Fld Z h510 b510 "java/lang/String" "coder" "B" (.int 0) := D510 (Or.inr (W 25 rfl)) (ty := .byte) (by decide)
  obtain ⟨T512, h512, k512, X512, e512, E512, A512, st512⟩ := newP X510 hx hZ (W 11 rfl) e510 (g := (mkF m 25 #[.val (.int 1), .val (.int c0), .val (.int c1), .val (.int c2), .val (.int c3)] [.int 1, .ref b510, .ref b510])) rfl (hB d29_25) rfl (by decide) (cap := 1) (by decide) (by decide) (by decide) (by decide)
  obtain ⟨b512, g512⟩ : ∃ z, z = h510.size := ⟨_, rfl⟩
  rw [← g512] at A512 st512
  have Z513 : n0 ≤ h512.size := Nat.le_trans Z511 E512.1
  have K0_513 : Keep h0 h512 [] := K0_511.ext E512
  have O513 : Old Z n0 h512 := O511.ext E512
  have lo_b512 : h510.size ≤ b512 := Nat.le_of_eq g512.symm
  have g_b512 : n0 ≤ b512 := Nat.le_trans Z511 lo_b512
  have l0_b512 : h0.size ≤ b512 := Nat.le_trans K0_511.1 lo_b512
  have V_b512 : Arv Z h512 b512 k512 .char (1 : Int32) [.int 0] (.int 0) := (Arv.new A512 (by decide)).pad (pad_rep [] (.int 0) 1)
  obtain ⟨clq514, Arq514, qaq514, Sq514, Nq514, Hq514, Gq514⟩ := id V_b512
  have hinq514 := inb_of (j := (0 : Int32)) Sq514 ⟨by decide, by decide⟩
  obtain ⟨T515, h515, X515, e515, W515, st515⟩ := stC X512 hx hZ e512 Arq514 (j := (0 : Int32)) hinq514 (g := (mkF m 30 #[.val (.int 1), .val (.int c0), .val (.int c1), .val (.int c2), .val (.int c3)] [.int c0, .int 0, .ref b512, .ref b512, .ref b510, .ref b510])) rfl rfl (hB d29_30)
  have V515 : Arv Z h515 b512 k512 .char (1 : Int32) [(.int (nar .char c0))] (.int 0) := Arv.set Arq514 qaq514 Sq514 Nq514 Hq514 Gq514 (fits_nar_char _) W515 0 rfl (own_ble rfl)
  rw [own_n16 hu0] at V515
  have Z516 : n0 ≤ h515.size := Nat.le_trans Z513 (Keep.of_wr W515).1
  have K0_516 : Keep h0 h515 [] := K0_513.wr W515 (Or.inr l0_b512)
  have O516 : Old Z n0 h515 := O513.wr W515 g_b512
  have N515 := Fr.snoc X515 N0 g_b512
  have f518 := ((A510.ext E512).wr W515)
  have f519 := ((F_value_b510.ext E512).other W515 (Or.inl (Nat.ne_of_lt (Nat.lt_of_lt_of_le A510.lt lo_b512))))
  have f520 := ((F_coder_b510.ext E512).other W515 (Or.inl (Nat.ne_of_lt (Nat.lt_of_lt_of_le A510.lt lo_b512))))
  -- pc 31: java/lang/String.<init>
  obtain ⟨_, _, ⟨T517, L517, k517, n517⟩, -, X517, ⟨Lc517, hQ517, l517, y517, z517⟩, st517⟩ := X515.specialBack hx (y := y13) rfl hown (mvT hZ (W 12 rfl)) (mvT hZ (W 13 rfl)) (mvT hZ (W 14 rfl)) (by decide) (backOf (W := 1) (rmini1 l Z a0 G1 fm hG [] b510 b512 k512 c0 h515 n0 Z516 O516 f518 g_b510 f519 f520 V515 (Ne.symm (Nat.ne_of_lt (Nat.lt_of_lt_of_le A510.lt lo_b512))) (own_all1 hu0)) hZ (W 14 rfl) (W 10 rfl) (by decide) (by decide)) (g := (mkF m 31 #[.val (.int 1), .val (.int c0), .val (.int c1), .val (.int c2), .val (.int c3)] [.ref b512, .ref b510, .ref b510])) rfl (by rw [hml]; rfl) (Steps.refl _) (a := b510) (argsL := [.ref b512]) (rest := [.ref b510]) (lenOf pd___C_V rfl) rfl (by show 2 * 0 + _ ≤ _; exact Nat.le_of_eq rfl) (hB d29_31) (fun _ _ => ⟨rfl, e515, (by decide : 2 + 2 ≤ _), (by decide : 5 + 3 ≤ _)⟩)
  dsimp only [Pt.U, Pt.locs, Pt.cells, Pt.slots] at X517 l517 y517 z517 st517 hQ517
  subst l517 y517 z517
  obtain ⟨t_517, kb_517, cd_517, z_517, vs_517, rfl, N517q, K517, f517_0, f517_1, f517_2, f517_3, f517_4⟩ := hQ517
  have N517 := Fr.app N515 N517q
  have Z521 : n0 ≤ T517.heap.size := Nat.le_trans Z516 K517.1
  have K0_521 : Keep h0 T517.heap [] := K0_516.trans K517 (allS (Or.inr l0_b510) all0)
  have O521 : Old Z n0 T517.heap := O516.keep K517 (allS g_b510 all0)
  obtain ⟨fs, hr, hrun, hended, hW, hsame⟩ := X517.leave (v := some (.ref b510)) (fun h => by rw [Bd.returns] at h; cases h)
  refine ⟨_, _, castTop (ef_method_3_code_IIIII m (1 : Int32) c0 c1 c2 c3) ?_, hrun, hended, _, _, rfl, ?_, ⟨_, rfl⟩, hW, hsame.mono (own_ble rfl) (own_ble rfl)⟩
  · show Steps _ _ _ (s₁.setTop (mkF m 0 #[.val (.int 1), .val (.int c0), .val (.int c1), .val (.int c2), .val (.int c3)] [])) _
    refine XS.iloadN X0.here hx rfl (hB d29_0) rfl ?_
    refine XS.ifYes X0.here hx rfl (pc0 := 1) (pc' := 15) rfl (hB d29_1) rfl ((if0 _ _).trans (feq (by decide : ¬ ((1 : Int32) = (0 : Int32)))).2) (by decide) (by decide) ?_
    refine XS.iloadN X0.here hx rfl (hB d29_15) rfl ?_
    refine XS.iconst X0.here hx rfl (hB d29_16) ?_
    refine XS.icmpNo X0.here hx rfl (hB d29_17) rfl (teq (by decide : (1 : Int32) = (1 : Int32))).2 ?_
    refine st510 _ ?_
    show Steps _ _ _ (T510.setTop (mkF m 23 #[.val (.int 1), .val (.int c0), .val (.int c1), .val (.int c2), .val (.int c3)] [.ref b510])) _
    refine XS.dup X510.here hx rfl (hB d29_23) rfl rfl ?_
    refine XS.iconst X510.here hx rfl (hB d29_24) ?_
    refine st512 _ ?_
    show Steps _ _ _ (T512.setTop (mkF m 27 #[.val (.int 1), .val (.int c0), .val (.int c1), .val (.int c2), .val (.int c3)] [.ref b512, .ref b510, .ref b510])) _
    refine XS.dup X512.here hx rfl (hB d29_27) rfl rfl ?_
    refine XS.iconst X512.here hx rfl (hB d29_28) ?_
    refine XS.iloadN X512.here hx rfl (hB d29_29) rfl ?_
    refine st515 _ ?_
    show Steps _ _ _ (T515.setTop (mkF m 31 #[.val (.int 1), .val (.int c0), .val (.int c1), .val (.int c2), .val (.int c3)] [.ref b512, .ref b510, .ref b510])) _
    refine st517.trans ?_
    show Steps _ _ _ (T517.setTop (mkF m 34 #[.val (.int 1), .val (.int c0), .val (.int c1), .val (.int c2), .val (.int c3)] [.ref b510])) _
    exact retOut X517 hx Bd.returns rfl (Or.inr (Or.inr (Or.inr (Or.inr ⟨rfl, rfl, rfl⟩)))) (hB d29_34) hr
  · show Qmk1 Z G1 fm c0 c1 c2 c3 h0 n0 _ T517.heap _
    exact ⟨b510, t_517, kb_517, cd_517, z_517, vs_517, rfl, N517, K0_521, l0_b510, f517_0, f517_1, f517_2, f517_3, f517_4⟩
theorem d29_35 : decode method_3_code 35 = .ok (.iload_n 0, 1) := by decide +kernel
theorem d29_36 : decode method_3_code 36 = .ok (.iconst 2, 1) := by decide +kernel
theorem d29_37 : decode method_3_code 37 = .ok (.if_icmp .ne 22, 3) := by decide +kernel
theorem d29_40 : decode method_3_code 40 = .ok (.new 7, 3) := by decide +kernel
theorem d29_43 : decode method_3_code 43 = .ok (.dup, 1) := by decide +kernel
theorem d29_44 : decode method_3_code 44 = .ok (.iconst 2, 1) := by decide +kernel
theorem d29_45 : decode method_3_code 45 = .ok (.newarray .char, 2) := by decide +kernel
theorem d29_47 : decode method_3_code 47 = .ok (.dup, 1) := by decide +kernel
theorem d29_48 : decode method_3_code 48 = .ok (.iconst 0, 1) := by decide +kernel
theorem d29_49 : decode method_3_code 49 = .ok (.iload_n 1, 1) := by decide +kernel
theorem d29_50 : decode method_3_code 50 = .ok (.castore, 1) := by decide +kernel
theorem d29_51 : decode method_3_code 51 = .ok (.dup, 1) := by decide +kernel
theorem d29_52 : decode method_3_code 52 = .ok (.iconst 1, 1) := by decide +kernel
theorem d29_53 : decode method_3_code 53 = .ok (.iload_n 2, 1) := by decide +kernel
theorem d29_54 : decode method_3_code 54 = .ok (.castore, 1) := by decide +kernel
theorem d29_55 : decode method_3_code 55 = .ok (.invokespecial 9, 3) := by decide +kernel
theorem d29_58 : decode method_3_code 58 = .ok (.areturn, 1) := by decide +kernel
def Qmk2 (Z : State) (G1 : Int32) (fm : Value) (c0 : Int32) (c1 : Int32) (c2 : Int32) (c3 : Int32) (h0 : Heap) (n0 : Nat) (v : Option Value) (h : Heap) (L : List Loc) : Prop := ∃ b : Addr, ∃ t : Addr, ∃ kb : ClassId, ∃ cd : Int32, ∃ z : Int32, ∃ vs : List Value, v = some (.ref b) ∧ Fr n0 L ∧ Keep h0 h [] ∧ h0.size ≤ b ∧ Exa Z h b "java/lang/String" ∧ Fld Z h b "java/lang/String" "coder" "B" (.int cd) ∧ Fld Z h b "java/lang/String" "value" "[B" (.ref t) ∧ Arv Z h t kb .byte z vs (.int 0) ∧ own_str cd z vs [c0, c1]
theorem rmmk2 (l : Launch) (Z : State) (a0 : Array Value) (G1 : Int32) (fm : Value) (hG : Glob Z a0 G1 fm) (ws : List Jvm.Cond) (c0 : Int32) (c1 : Int32) (c2 : Int32) (c3 : Int32) (h0 : Heap) (n0 : Nat) (Z0 : n0 ≤ h0.size) (X00 : Old Z n0 h0) (hu0 : own_u16 c0) (hu1 : own_u16 c1) (hu2 : own_u16 c2) (hu3 : own_u16 c3) :
    Met l Z h0 y29 method_3_code 5 (some (.object "java/lang/String")) ws (Room.mk 6 4 12 88) #[.int 2, .int c0, .int c1, .int c2, .int c3] (Qmk2 Z G1 fm c0 c1 c2 c3 h0 n0) := by
  obtain ⟨hw, O_cs, P_cs, O_as, O_hi, O_lo, O_fm, R_fm⟩ := id hG
  have W := @own_W _ _ hw
  refine own_go "com/example/label_lattice/labellattice/RangeIsWrittenAsRangePinLaw" rfl (plainFor_of_name pn_com_example_label_lattice_labellattice_RangeIsWrittenAsRangePinLaw) ?_
  intro p e s m below meth c s₁ Bd hx hby hml hown hnm X0 e0 hZ
  have hB := @hb _ _ hby
  have N0 := Fr.nil n0
  obtain ⟨T522, h522, X522, e522, E522, A522, D522, -, st522⟩ := newO X0 hx hZ hown (W 8 rfl) (W 9 rfl) (W 10 rfl) e0 (g := (mkF m 40 #[.val (.int 2), .val (.int c0), .val (.int c1), .val (.int c2), .val (.int c3)] [])) rfl (hB d29_40) (by decide) (by decide)
  obtain ⟨b522, g522⟩ : ∃ z, z = h0.size := ⟨_, rfl⟩
  rw [← g522] at A522 D522 st522
  have Z523 : n0 ≤ h522.size := Nat.le_trans Z0 E522.1
  have K0_523 : Keep h0 h522 [] := (Keep.refl h0 []).ext E522
  have O523 : Old Z n0 h522 := X00.ext E522
  have lo_b522 : h0.size ≤ b522 := Nat.le_of_eq g522.symm
  have g_b522 : n0 ≤ b522 := Nat.le_trans Z0 lo_b522
  have l0_b522 : h0.size ≤ b522 := Nat.le_trans (Keep.refl h0 []).1 lo_b522
  have F_value_b522 : Fld Z h522 b522 "java/lang/String" "value" "[B" .null := D522 (Or.inr (W 24 rfl)) (ty := (.array .byte)) (by decide)
  have F_coder_b522 : Fld Z h522 b522 "java/lang/String" "coder" "B" (.int 0) := D522 (Or.inr (W 25 rfl)) (ty := .byte) (by decide)
  obtain ⟨T524, h524, k524, X524, e524, E524, A524, st524⟩ := newP X522 hx hZ (W 11 rfl) e522 (g := (mkF m 45 #[.val (.int 2), .val (.int c0), .val (.int c1), .val (.int c2), .val (.int c3)] [.int 2, .ref b522, .ref b522])) rfl (hB d29_45) rfl (by decide) (cap := 2) (by decide) (by decide) (by decide) (by decide)
  obtain ⟨b524, g524⟩ : ∃ z, z = h522.size := ⟨_, rfl⟩
  rw [← g524] at A524 st524
  have Z525 : n0 ≤ h524.size := Nat.le_trans Z523 E524.1
  have K0_525 : Keep h0 h524 [] := K0_523.ext E524
  have O525 : Old Z n0 h524 := O523.ext E524
  have lo_b524 : h522.size ≤ b524 := Nat.le_of_eq g524.symm
  have g_b524 : n0 ≤ b524 := Nat.le_trans Z523 lo_b524
  have l0_b524 : h0.size ≤ b524 := Nat.le_trans K0_523.1 lo_b524
  have V_b524 : Arv Z h524 b524 k524 .char (2 : Int32) [.int 0, .int 0] (.int 0) := (Arv.new A524 (by decide)).pad (pad_rep [] (.int 0) 2)
  obtain ⟨clq526, Arq526, qaq526, Sq526, Nq526, Hq526, Gq526⟩ := id V_b524
  have hinq526 := inb_of (j := (0 : Int32)) Sq526 ⟨by decide, by decide⟩
  obtain ⟨T527, h527, X527, e527, W527, st527⟩ := stC X524 hx hZ e524 Arq526 (j := (0 : Int32)) hinq526 (g := (mkF m 50 #[.val (.int 2), .val (.int c0), .val (.int c1), .val (.int c2), .val (.int c3)] [.int c0, .int 0, .ref b524, .ref b524, .ref b522, .ref b522])) rfl rfl (hB d29_50)
  have V527 : Arv Z h527 b524 k524 .char (2 : Int32) [(.int (nar .char c0)), .int 0] (.int 0) := Arv.set Arq526 qaq526 Sq526 Nq526 Hq526 Gq526 (fits_nar_char _) W527 0 rfl (own_ble rfl)
  rw [own_n16 hu0] at V527
  have Z528 : n0 ≤ h527.size := Nat.le_trans Z525 (Keep.of_wr W527).1
  have K0_528 : Keep h0 h527 [] := K0_525.wr W527 (Or.inr l0_b524)
  have O528 : Old Z n0 h527 := O525.wr W527 g_b524
  have N527 := Fr.snoc X527 N0 g_b524
  obtain ⟨clq529, Arq529, qaq529, Sq529, Nq529, Hq529, Gq529⟩ := id V527
  have hinq529 := inb_of (j := (1 : Int32)) Sq529 ⟨by decide, by decide⟩
  obtain ⟨T530, h530, X530, e530, W530, st530⟩ := stC X527 hx hZ e527 Arq529 (j := (1 : Int32)) hinq529 (g := (mkF m 54 #[.val (.int 2), .val (.int c0), .val (.int c1), .val (.int c2), .val (.int c3)] [.int c1, .int 1, .ref b524, .ref b524, .ref b522, .ref b522])) rfl rfl (hB d29_54)
  have V530 : Arv Z h530 b524 k524 .char (2 : Int32) [.int c0, (.int (nar .char c1))] (.int 0) := Arv.set Arq529 qaq529 Sq529 Nq529 Hq529 Gq529 (fits_nar_char _) W530 1 rfl (own_ble rfl)
  rw [own_n16 hu1] at V530
  have Z531 : n0 ≤ h530.size := Nat.le_trans Z528 (Keep.of_wr W530).1
  have K0_531 : Keep h0 h530 [] := K0_528.wr W530 (Or.inr l0_b524)
  have O531 : Old Z n0 h530 := O528.wr W530 g_b524
  have N530 := Fr.snoc X530 N527 g_b524
  have f533 := (((A522.ext E524).wr W527).wr W530)
  have f534 := (((F_value_b522.ext E524).other W527 (Or.inl (Nat.ne_of_lt (Nat.lt_of_lt_of_le A522.lt lo_b524)))).other W530 (Or.inl (Nat.ne_of_lt (Nat.lt_of_lt_of_le A522.lt lo_b524))))
  have f535 := (((F_coder_b522.ext E524).other W527 (Or.inl (Nat.ne_of_lt (Nat.lt_of_lt_of_le A522.lt lo_b524)))).other W530 (Or.inl (Nat.ne_of_lt (Nat.lt_of_lt_of_le A522.lt lo_b524))))
  -- pc 55: java/lang/String.<init>
  obtain ⟨_, _, ⟨T532, L532, k532, n532⟩, -, X532, ⟨Lc532, hQ532, l532, y532, z532⟩, st532⟩ := X530.specialBack hx (y := y13) rfl hown (mvT hZ (W 12 rfl)) (mvT hZ (W 13 rfl)) (mvT hZ (W 14 rfl)) (by decide) (backOf (W := 1) (rmini2 l Z a0 G1 fm hG [] b522 b524 k524 c0 c1 h530 n0 Z531 O531 f533 g_b522 f534 f535 V530 (Ne.symm (Nat.ne_of_lt (Nat.lt_of_lt_of_le A522.lt lo_b524))) (own_all2 hu0 hu1)) hZ (W 14 rfl) (W 10 rfl) (by decide) (by decide)) (g := (mkF m 55 #[.val (.int 2), .val (.int c0), .val (.int c1), .val (.int c2), .val (.int c3)] [.ref b524, .ref b522, .ref b522])) rfl (by rw [hml]; rfl) (Steps.refl _) (a := b522) (argsL := [.ref b524]) (rest := [.ref b522]) (lenOf pd___C_V rfl) rfl (by show 2 * 0 + _ ≤ _; exact Nat.le_of_eq rfl) (hB d29_55) (fun _ _ => ⟨rfl, e530, (by decide : 2 + 2 ≤ _), (by decide : 6 + 6 ≤ _)⟩)
  dsimp only [Pt.U, Pt.locs, Pt.cells, Pt.slots] at X532 l532 y532 z532 st532 hQ532
  subst l532 y532 z532
  obtain ⟨t_532, kb_532, cd_532, z_532, vs_532, rfl, N532q, K532, f532_0, f532_1, f532_2, f532_3, f532_4⟩ := hQ532
  have N532 := Fr.app N530 N532q
  have Z536 : n0 ≤ T532.heap.size := Nat.le_trans Z531 K532.1
  have K0_536 : Keep h0 T532.heap [] := K0_531.trans K532 (allS (Or.inr l0_b522) all0)
  have O536 : Old Z n0 T532.heap := O531.keep K532 (allS g_b522 all0)
  obtain ⟨fs, hr, hrun, hended, hW, hsame⟩ := X532.leave (v := some (.ref b522)) (fun h => by rw [Bd.returns] at h; cases h)
  refine ⟨_, _, castTop (ef_method_3_code_IIIII m (2 : Int32) c0 c1 c2 c3) ?_, hrun, hended, _, _, rfl, ?_, ⟨_, rfl⟩, hW, hsame.mono (own_ble rfl) (own_ble rfl)⟩
  · show Steps _ _ _ (s₁.setTop (mkF m 0 #[.val (.int 2), .val (.int c0), .val (.int c1), .val (.int c2), .val (.int c3)] [])) _
    refine XS.iloadN X0.here hx rfl (hB d29_0) rfl ?_
    refine XS.ifYes X0.here hx rfl (pc0 := 1) (pc' := 15) rfl (hB d29_1) rfl ((if0 _ _).trans (feq (by decide : ¬ ((2 : Int32) = (0 : Int32)))).2) (by decide) (by decide) ?_
    refine XS.iloadN X0.here hx rfl (hB d29_15) rfl ?_
    refine XS.iconst X0.here hx rfl (hB d29_16) ?_
    refine XS.icmpYes X0.here hx rfl (pc0 := 17) (pc' := 35) rfl (hB d29_17) rfl (feq (by decide : ¬ ((2 : Int32) = (1 : Int32)))).2 (by decide) (by decide) ?_
    refine XS.iloadN X0.here hx rfl (hB d29_35) rfl ?_
    refine XS.iconst X0.here hx rfl (hB d29_36) ?_
    refine XS.icmpNo X0.here hx rfl (hB d29_37) rfl (teq (by decide : (2 : Int32) = (2 : Int32))).2 ?_
    refine st522 _ ?_
    show Steps _ _ _ (T522.setTop (mkF m 43 #[.val (.int 2), .val (.int c0), .val (.int c1), .val (.int c2), .val (.int c3)] [.ref b522])) _
    refine XS.dup X522.here hx rfl (hB d29_43) rfl rfl ?_
    refine XS.iconst X522.here hx rfl (hB d29_44) ?_
    refine st524 _ ?_
    show Steps _ _ _ (T524.setTop (mkF m 47 #[.val (.int 2), .val (.int c0), .val (.int c1), .val (.int c2), .val (.int c3)] [.ref b524, .ref b522, .ref b522])) _
    refine XS.dup X524.here hx rfl (hB d29_47) rfl rfl ?_
    refine XS.iconst X524.here hx rfl (hB d29_48) ?_
    refine XS.iloadN X524.here hx rfl (hB d29_49) rfl ?_
    refine st527 _ ?_
    show Steps _ _ _ (T527.setTop (mkF m 51 #[.val (.int 2), .val (.int c0), .val (.int c1), .val (.int c2), .val (.int c3)] [.ref b524, .ref b522, .ref b522])) _
    refine XS.dup X527.here hx rfl (hB d29_51) rfl rfl ?_
    refine XS.iconst X527.here hx rfl (hB d29_52) ?_
    refine XS.iloadN X527.here hx rfl (hB d29_53) rfl ?_
    refine st530 _ ?_
    show Steps _ _ _ (T530.setTop (mkF m 55 #[.val (.int 2), .val (.int c0), .val (.int c1), .val (.int c2), .val (.int c3)] [.ref b524, .ref b522, .ref b522])) _
    refine st532.trans ?_
    show Steps _ _ _ (T532.setTop (mkF m 58 #[.val (.int 2), .val (.int c0), .val (.int c1), .val (.int c2), .val (.int c3)] [.ref b522])) _
    exact retOut X532 hx Bd.returns rfl (Or.inr (Or.inr (Or.inr (Or.inr ⟨rfl, rfl, rfl⟩)))) (hB d29_58) hr
  · show Qmk2 Z G1 fm c0 c1 c2 c3 h0 n0 _ T532.heap _
    exact ⟨b522, t_532, kb_532, cd_532, z_532, vs_532, rfl, N532, K0_536, l0_b522, f532_0, f532_1, f532_2, f532_3, f532_4⟩
theorem d29_59 : decode method_3_code 59 = .ok (.iload_n 0, 1) := by decide +kernel
theorem d29_60 : decode method_3_code 60 = .ok (.iconst 3, 1) := by decide +kernel
theorem d29_61 : decode method_3_code 61 = .ok (.if_icmp .ne 26, 3) := by decide +kernel
theorem d29_64 : decode method_3_code 64 = .ok (.new 7, 3) := by decide +kernel
theorem d29_67 : decode method_3_code 67 = .ok (.dup, 1) := by decide +kernel
theorem d29_68 : decode method_3_code 68 = .ok (.iconst 3, 1) := by decide +kernel
theorem d29_69 : decode method_3_code 69 = .ok (.newarray .char, 2) := by decide +kernel
theorem d29_71 : decode method_3_code 71 = .ok (.dup, 1) := by decide +kernel
theorem d29_72 : decode method_3_code 72 = .ok (.iconst 0, 1) := by decide +kernel
theorem d29_73 : decode method_3_code 73 = .ok (.iload_n 1, 1) := by decide +kernel
theorem d29_74 : decode method_3_code 74 = .ok (.castore, 1) := by decide +kernel
theorem d29_75 : decode method_3_code 75 = .ok (.dup, 1) := by decide +kernel
theorem d29_76 : decode method_3_code 76 = .ok (.iconst 1, 1) := by decide +kernel
theorem d29_77 : decode method_3_code 77 = .ok (.iload_n 2, 1) := by decide +kernel
theorem d29_78 : decode method_3_code 78 = .ok (.castore, 1) := by decide +kernel
theorem d29_79 : decode method_3_code 79 = .ok (.dup, 1) := by decide +kernel
theorem d29_80 : decode method_3_code 80 = .ok (.iconst 2, 1) := by decide +kernel
theorem d29_81 : decode method_3_code 81 = .ok (.iload_n 3, 1) := by decide +kernel
theorem d29_82 : decode method_3_code 82 = .ok (.castore, 1) := by decide +kernel
theorem d29_83 : decode method_3_code 83 = .ok (.invokespecial 9, 3) := by decide +kernel
theorem d29_86 : decode method_3_code 86 = .ok (.areturn, 1) := by decide +kernel
def Qmk3 (Z : State) (G1 : Int32) (fm : Value) (c0 : Int32) (c1 : Int32) (c2 : Int32) (c3 : Int32) (h0 : Heap) (n0 : Nat) (v : Option Value) (h : Heap) (L : List Loc) : Prop := ∃ b : Addr, ∃ t : Addr, ∃ kb : ClassId, ∃ cd : Int32, ∃ z : Int32, ∃ vs : List Value, v = some (.ref b) ∧ Fr n0 L ∧ Keep h0 h [] ∧ h0.size ≤ b ∧ Exa Z h b "java/lang/String" ∧ Fld Z h b "java/lang/String" "coder" "B" (.int cd) ∧ Fld Z h b "java/lang/String" "value" "[B" (.ref t) ∧ Arv Z h t kb .byte z vs (.int 0) ∧ own_str cd z vs [c0, c1, c2]
theorem rmmk3 (l : Launch) (Z : State) (a0 : Array Value) (G1 : Int32) (fm : Value) (hG : Glob Z a0 G1 fm) (ws : List Jvm.Cond) (c0 : Int32) (c1 : Int32) (c2 : Int32) (c3 : Int32) (h0 : Heap) (n0 : Nat) (Z0 : n0 ≤ h0.size) (X00 : Old Z n0 h0) (hu0 : own_u16 c0) (hu1 : own_u16 c1) (hu2 : own_u16 c2) (hu3 : own_u16 c3) :
    Met l Z h0 y29 method_3_code 5 (some (.object "java/lang/String")) ws (Room.mk 6 4 16 88) #[.int 3, .int c0, .int c1, .int c2, .int c3] (Qmk3 Z G1 fm c0 c1 c2 c3 h0 n0) := by
  obtain ⟨hw, O_cs, P_cs, O_as, O_hi, O_lo, O_fm, R_fm⟩ := id hG
  have W := @own_W _ _ hw
  refine own_go "com/example/label_lattice/labellattice/RangeIsWrittenAsRangePinLaw" rfl (plainFor_of_name pn_com_example_label_lattice_labellattice_RangeIsWrittenAsRangePinLaw) ?_
  intro p e s m below meth c s₁ Bd hx hby hml hown hnm X0 e0 hZ
  have hB := @hb _ _ hby
  have N0 := Fr.nil n0
  obtain ⟨T537, h537, X537, e537, E537, A537, D537, -, st537⟩ := newO X0 hx hZ hown (W 8 rfl) (W 9 rfl) (W 10 rfl) e0 (g := (mkF m 64 #[.val (.int 3), .val (.int c0), .val (.int c1), .val (.int c2), .val (.int c3)] [])) rfl (hB d29_64) (by decide) (by decide)
  obtain ⟨b537, g537⟩ : ∃ z, z = h0.size := ⟨_, rfl⟩
  rw [← g537] at A537 D537 st537
  have Z538 : n0 ≤ h537.size := Nat.le_trans Z0 E537.1
  have K0_538 : Keep h0 h537 [] := (Keep.refl h0 []).ext E537
  have O538 : Old Z n0 h537 := X00.ext E537
  have lo_b537 : h0.size ≤ b537 := Nat.le_of_eq g537.symm
  have g_b537 : n0 ≤ b537 := Nat.le_trans Z0 lo_b537
  have l0_b537 : h0.size ≤ b537 := Nat.le_trans (Keep.refl h0 []).1 lo_b537
  have F_value_b537 : Fld Z h537 b537 "java/lang/String" "value" "[B" .null := D537 (Or.inr (W 24 rfl)) (ty := (.array .byte)) (by decide)
  have F_coder_b537 : Fld Z h537 b537 "java/lang/String" "coder" "B" (.int 0) := D537 (Or.inr (W 25 rfl)) (ty := .byte) (by decide)
  obtain ⟨T539, h539, k539, X539, e539, E539, A539, st539⟩ := newP X537 hx hZ (W 11 rfl) e537 (g := (mkF m 69 #[.val (.int 3), .val (.int c0), .val (.int c1), .val (.int c2), .val (.int c3)] [.int 3, .ref b537, .ref b537])) rfl (hB d29_69) rfl (by decide) (cap := 3) (by decide) (by decide) (by decide) (by decide)
  obtain ⟨b539, g539⟩ : ∃ z, z = h537.size := ⟨_, rfl⟩
  rw [← g539] at A539 st539
  have Z540 : n0 ≤ h539.size := Nat.le_trans Z538 E539.1
  have K0_540 : Keep h0 h539 [] := K0_538.ext E539
  have O540 : Old Z n0 h539 := O538.ext E539
  have lo_b539 : h537.size ≤ b539 := Nat.le_of_eq g539.symm
  have g_b539 : n0 ≤ b539 := Nat.le_trans Z538 lo_b539
  have l0_b539 : h0.size ≤ b539 := Nat.le_trans K0_538.1 lo_b539
  have V_b539 : Arv Z h539 b539 k539 .char (3 : Int32) [.int 0, .int 0, .int 0] (.int 0) := (Arv.new A539 (by decide)).pad (pad_rep [] (.int 0) 3)
  obtain ⟨clq541, Arq541, qaq541, Sq541, Nq541, Hq541, Gq541⟩ := id V_b539
  have hinq541 := inb_of (j := (0 : Int32)) Sq541 ⟨by decide, by decide⟩
  obtain ⟨T542, h542, X542, e542, W542, st542⟩ := stC X539 hx hZ e539 Arq541 (j := (0 : Int32)) hinq541 (g := (mkF m 74 #[.val (.int 3), .val (.int c0), .val (.int c1), .val (.int c2), .val (.int c3)] [.int c0, .int 0, .ref b539, .ref b539, .ref b537, .ref b537])) rfl rfl (hB d29_74)
  have V542 : Arv Z h542 b539 k539 .char (3 : Int32) [(.int (nar .char c0)), .int 0, .int 0] (.int 0) := Arv.set Arq541 qaq541 Sq541 Nq541 Hq541 Gq541 (fits_nar_char _) W542 0 rfl (own_ble rfl)
  rw [own_n16 hu0] at V542
  have Z543 : n0 ≤ h542.size := Nat.le_trans Z540 (Keep.of_wr W542).1
  have K0_543 : Keep h0 h542 [] := K0_540.wr W542 (Or.inr l0_b539)
  have O543 : Old Z n0 h542 := O540.wr W542 g_b539
  have N542 := Fr.snoc X542 N0 g_b539
  obtain ⟨clq544, Arq544, qaq544, Sq544, Nq544, Hq544, Gq544⟩ := id V542
  have hinq544 := inb_of (j := (1 : Int32)) Sq544 ⟨by decide, by decide⟩
  obtain ⟨T545, h545, X545, e545, W545, st545⟩ := stC X542 hx hZ e542 Arq544 (j := (1 : Int32)) hinq544 (g := (mkF m 78 #[.val (.int 3), .val (.int c0), .val (.int c1), .val (.int c2), .val (.int c3)] [.int c1, .int 1, .ref b539, .ref b539, .ref b537, .ref b537])) rfl rfl (hB d29_78)
  have V545 : Arv Z h545 b539 k539 .char (3 : Int32) [.int c0, (.int (nar .char c1)), .int 0] (.int 0) := Arv.set Arq544 qaq544 Sq544 Nq544 Hq544 Gq544 (fits_nar_char _) W545 1 rfl (own_ble rfl)
  rw [own_n16 hu1] at V545
  have Z546 : n0 ≤ h545.size := Nat.le_trans Z543 (Keep.of_wr W545).1
  have K0_546 : Keep h0 h545 [] := K0_543.wr W545 (Or.inr l0_b539)
  have O546 : Old Z n0 h545 := O543.wr W545 g_b539
  have N545 := Fr.snoc X545 N542 g_b539
  obtain ⟨clq547, Arq547, qaq547, Sq547, Nq547, Hq547, Gq547⟩ := id V545
  have hinq547 := inb_of (j := (2 : Int32)) Sq547 ⟨by decide, by decide⟩
  obtain ⟨T548, h548, X548, e548, W548, st548⟩ := stC X545 hx hZ e545 Arq547 (j := (2 : Int32)) hinq547 (g := (mkF m 82 #[.val (.int 3), .val (.int c0), .val (.int c1), .val (.int c2), .val (.int c3)] [.int c2, .int 2, .ref b539, .ref b539, .ref b537, .ref b537])) rfl rfl (hB d29_82)
  have V548 : Arv Z h548 b539 k539 .char (3 : Int32) [.int c0, .int c1, (.int (nar .char c2))] (.int 0) := Arv.set Arq547 qaq547 Sq547 Nq547 Hq547 Gq547 (fits_nar_char _) W548 2 rfl (own_ble rfl)
  rw [own_n16 hu2] at V548
  have Z549 : n0 ≤ h548.size := Nat.le_trans Z546 (Keep.of_wr W548).1
  have K0_549 : Keep h0 h548 [] := K0_546.wr W548 (Or.inr l0_b539)
  have O549 : Old Z n0 h548 := O546.wr W548 g_b539
  have N548 := Fr.snoc X548 N545 g_b539
  have f551 := ((((A537.ext E539).wr W542).wr W545).wr W548)
  have f552 := ((((F_value_b537.ext E539).other W542 (Or.inl (Nat.ne_of_lt (Nat.lt_of_lt_of_le A537.lt lo_b539)))).other W545 (Or.inl (Nat.ne_of_lt (Nat.lt_of_lt_of_le A537.lt lo_b539)))).other W548 (Or.inl (Nat.ne_of_lt (Nat.lt_of_lt_of_le A537.lt lo_b539))))
  have f553 := ((((F_coder_b537.ext E539).other W542 (Or.inl (Nat.ne_of_lt (Nat.lt_of_lt_of_le A537.lt lo_b539)))).other W545 (Or.inl (Nat.ne_of_lt (Nat.lt_of_lt_of_le A537.lt lo_b539)))).other W548 (Or.inl (Nat.ne_of_lt (Nat.lt_of_lt_of_le A537.lt lo_b539))))
  -- pc 83: java/lang/String.<init>
  obtain ⟨_, _, ⟨T550, L550, k550, n550⟩, -, X550, ⟨Lc550, hQ550, l550, y550, z550⟩, st550⟩ := X548.specialBack hx (y := y13) rfl hown (mvT hZ (W 12 rfl)) (mvT hZ (W 13 rfl)) (mvT hZ (W 14 rfl)) (by decide) (backOf (W := 1) (rmini3 l Z a0 G1 fm hG [] b537 b539 k539 c0 c1 c2 h548 n0 Z549 O549 f551 g_b537 f552 f553 V548 (Ne.symm (Nat.ne_of_lt (Nat.lt_of_lt_of_le A537.lt lo_b539))) (own_all3 hu0 hu1 hu2)) hZ (W 14 rfl) (W 10 rfl) (by decide) (by decide)) (g := (mkF m 83 #[.val (.int 3), .val (.int c0), .val (.int c1), .val (.int c2), .val (.int c3)] [.ref b539, .ref b537, .ref b537])) rfl (by rw [hml]; rfl) (Steps.refl _) (a := b537) (argsL := [.ref b539]) (rest := [.ref b537]) (lenOf pd___C_V rfl) rfl (by show 2 * 0 + _ ≤ _; exact Nat.le_of_eq rfl) (hB d29_83) (fun _ _ => ⟨rfl, e548, (by decide : 2 + 2 ≤ _), (by decide : 7 + 9 ≤ _)⟩)
  dsimp only [Pt.U, Pt.locs, Pt.cells, Pt.slots] at X550 l550 y550 z550 st550 hQ550
  subst l550 y550 z550
  obtain ⟨t_550, kb_550, cd_550, z_550, vs_550, rfl, N550q, K550, f550_0, f550_1, f550_2, f550_3, f550_4⟩ := hQ550
  have N550 := Fr.app N548 N550q
  have Z554 : n0 ≤ T550.heap.size := Nat.le_trans Z549 K550.1
  have K0_554 : Keep h0 T550.heap [] := K0_549.trans K550 (allS (Or.inr l0_b537) all0)
  have O554 : Old Z n0 T550.heap := O549.keep K550 (allS g_b537 all0)
  obtain ⟨fs, hr, hrun, hended, hW, hsame⟩ := X550.leave (v := some (.ref b537)) (fun h => by rw [Bd.returns] at h; cases h)
  refine ⟨_, _, castTop (ef_method_3_code_IIIII m (3 : Int32) c0 c1 c2 c3) ?_, hrun, hended, _, _, rfl, ?_, ⟨_, rfl⟩, hW, hsame.mono (own_ble rfl) (own_ble rfl)⟩
  · show Steps _ _ _ (s₁.setTop (mkF m 0 #[.val (.int 3), .val (.int c0), .val (.int c1), .val (.int c2), .val (.int c3)] [])) _
    refine XS.iloadN X0.here hx rfl (hB d29_0) rfl ?_
    refine XS.ifYes X0.here hx rfl (pc0 := 1) (pc' := 15) rfl (hB d29_1) rfl ((if0 _ _).trans (feq (by decide : ¬ ((3 : Int32) = (0 : Int32)))).2) (by decide) (by decide) ?_
    refine XS.iloadN X0.here hx rfl (hB d29_15) rfl ?_
    refine XS.iconst X0.here hx rfl (hB d29_16) ?_
    refine XS.icmpYes X0.here hx rfl (pc0 := 17) (pc' := 35) rfl (hB d29_17) rfl (feq (by decide : ¬ ((3 : Int32) = (1 : Int32)))).2 (by decide) (by decide) ?_
    refine XS.iloadN X0.here hx rfl (hB d29_35) rfl ?_
    refine XS.iconst X0.here hx rfl (hB d29_36) ?_
    refine XS.icmpYes X0.here hx rfl (pc0 := 37) (pc' := 59) rfl (hB d29_37) rfl (feq (by decide : ¬ ((3 : Int32) = (2 : Int32)))).2 (by decide) (by decide) ?_
    refine XS.iloadN X0.here hx rfl (hB d29_59) rfl ?_
    refine XS.iconst X0.here hx rfl (hB d29_60) ?_
    refine XS.icmpNo X0.here hx rfl (hB d29_61) rfl (teq (by decide : (3 : Int32) = (3 : Int32))).2 ?_
    refine st537 _ ?_
    show Steps _ _ _ (T537.setTop (mkF m 67 #[.val (.int 3), .val (.int c0), .val (.int c1), .val (.int c2), .val (.int c3)] [.ref b537])) _
    refine XS.dup X537.here hx rfl (hB d29_67) rfl rfl ?_
    refine XS.iconst X537.here hx rfl (hB d29_68) ?_
    refine st539 _ ?_
    show Steps _ _ _ (T539.setTop (mkF m 71 #[.val (.int 3), .val (.int c0), .val (.int c1), .val (.int c2), .val (.int c3)] [.ref b539, .ref b537, .ref b537])) _
    refine XS.dup X539.here hx rfl (hB d29_71) rfl rfl ?_
    refine XS.iconst X539.here hx rfl (hB d29_72) ?_
    refine XS.iloadN X539.here hx rfl (hB d29_73) rfl ?_
    refine st542 _ ?_
    show Steps _ _ _ (T542.setTop (mkF m 75 #[.val (.int 3), .val (.int c0), .val (.int c1), .val (.int c2), .val (.int c3)] [.ref b539, .ref b537, .ref b537])) _
    refine XS.dup X542.here hx rfl (hB d29_75) rfl rfl ?_
    refine XS.iconst X542.here hx rfl (hB d29_76) ?_
    refine XS.iloadN X542.here hx rfl (hB d29_77) rfl ?_
    refine st545 _ ?_
    show Steps _ _ _ (T545.setTop (mkF m 79 #[.val (.int 3), .val (.int c0), .val (.int c1), .val (.int c2), .val (.int c3)] [.ref b539, .ref b537, .ref b537])) _
    refine XS.dup X545.here hx rfl (hB d29_79) rfl rfl ?_
    refine XS.iconst X545.here hx rfl (hB d29_80) ?_
    refine XS.iloadN X545.here hx rfl (hB d29_81) rfl ?_
    refine st548 _ ?_
    show Steps _ _ _ (T548.setTop (mkF m 83 #[.val (.int 3), .val (.int c0), .val (.int c1), .val (.int c2), .val (.int c3)] [.ref b539, .ref b537, .ref b537])) _
    refine st550.trans ?_
    show Steps _ _ _ (T550.setTop (mkF m 86 #[.val (.int 3), .val (.int c0), .val (.int c1), .val (.int c2), .val (.int c3)] [.ref b537])) _
    exact retOut X550 hx Bd.returns rfl (Or.inr (Or.inr (Or.inr (Or.inr ⟨rfl, rfl, rfl⟩)))) (hB d29_86) hr
  · show Qmk3 Z G1 fm c0 c1 c2 c3 h0 n0 _ T550.heap _
    exact ⟨b537, t_550, kb_550, cd_550, z_550, vs_550, rfl, N550, K0_554, l0_b537, f550_0, f550_1, f550_2, f550_3, f550_4⟩
theorem d29_87 : decode method_3_code 87 = .ok (.new 7, 3) := by decide +kernel
theorem d29_90 : decode method_3_code 90 = .ok (.dup, 1) := by decide +kernel
theorem d29_91 : decode method_3_code 91 = .ok (.iconst 4, 1) := by decide +kernel
theorem d29_92 : decode method_3_code 92 = .ok (.newarray .char, 2) := by decide +kernel
theorem d29_94 : decode method_3_code 94 = .ok (.dup, 1) := by decide +kernel
theorem d29_95 : decode method_3_code 95 = .ok (.iconst 0, 1) := by decide +kernel
theorem d29_96 : decode method_3_code 96 = .ok (.iload_n 1, 1) := by decide +kernel
theorem d29_97 : decode method_3_code 97 = .ok (.castore, 1) := by decide +kernel
theorem d29_98 : decode method_3_code 98 = .ok (.dup, 1) := by decide +kernel
theorem d29_99 : decode method_3_code 99 = .ok (.iconst 1, 1) := by decide +kernel
theorem d29_100 : decode method_3_code 100 = .ok (.iload_n 2, 1) := by decide +kernel
theorem d29_101 : decode method_3_code 101 = .ok (.castore, 1) := by decide +kernel
theorem d29_102 : decode method_3_code 102 = .ok (.dup, 1) := by decide +kernel
theorem d29_103 : decode method_3_code 103 = .ok (.iconst 2, 1) := by decide +kernel
theorem d29_104 : decode method_3_code 104 = .ok (.iload_n 3, 1) := by decide +kernel
theorem d29_105 : decode method_3_code 105 = .ok (.castore, 1) := by decide +kernel
theorem d29_106 : decode method_3_code 106 = .ok (.dup, 1) := by decide +kernel
theorem d29_107 : decode method_3_code 107 = .ok (.iconst 3, 1) := by decide +kernel
theorem d29_108 : decode method_3_code 108 = .ok (.iload 4, 2) := by decide +kernel
theorem d29_110 : decode method_3_code 110 = .ok (.castore, 1) := by decide +kernel
theorem d29_111 : decode method_3_code 111 = .ok (.invokespecial 9, 3) := by decide +kernel
theorem d29_114 : decode method_3_code 114 = .ok (.areturn, 1) := by decide +kernel
def Qmk4 (Z : State) (G1 : Int32) (fm : Value) (c0 : Int32) (c1 : Int32) (c2 : Int32) (c3 : Int32) (h0 : Heap) (n0 : Nat) (v : Option Value) (h : Heap) (L : List Loc) : Prop := ∃ b : Addr, ∃ t : Addr, ∃ kb : ClassId, ∃ cd : Int32, ∃ z : Int32, ∃ vs : List Value, v = some (.ref b) ∧ Fr n0 L ∧ Keep h0 h [] ∧ h0.size ≤ b ∧ Exa Z h b "java/lang/String" ∧ Fld Z h b "java/lang/String" "coder" "B" (.int cd) ∧ Fld Z h b "java/lang/String" "value" "[B" (.ref t) ∧ Arv Z h t kb .byte z vs (.int 0) ∧ own_str cd z vs [c0, c1, c2, c3]
theorem rmmk4 (l : Launch) (Z : State) (a0 : Array Value) (G1 : Int32) (fm : Value) (hG : Glob Z a0 G1 fm) (ws : List Jvm.Cond) (c0 : Int32) (c1 : Int32) (c2 : Int32) (c3 : Int32) (h0 : Heap) (n0 : Nat) (Z0 : n0 ≤ h0.size) (X00 : Old Z n0 h0) (hu0 : own_u16 c0) (hu1 : own_u16 c1) (hu2 : own_u16 c2) (hu3 : own_u16 c3) :
    Met l Z h0 y29 method_3_code 5 (some (.object "java/lang/String")) ws (Room.mk 6 4 20 88) #[.int 4, .int c0, .int c1, .int c2, .int c3] (Qmk4 Z G1 fm c0 c1 c2 c3 h0 n0) := by
  obtain ⟨hw, O_cs, P_cs, O_as, O_hi, O_lo, O_fm, R_fm⟩ := id hG
  have W := @own_W _ _ hw
  refine own_go "com/example/label_lattice/labellattice/RangeIsWrittenAsRangePinLaw" rfl (plainFor_of_name pn_com_example_label_lattice_labellattice_RangeIsWrittenAsRangePinLaw) ?_
  intro p e s m below meth c s₁ Bd hx hby hml hown hnm X0 e0 hZ
  have hB := @hb _ _ hby
  have N0 := Fr.nil n0
  obtain ⟨T555, h555, X555, e555, E555, A555, D555, -, st555⟩ := newO X0 hx hZ hown (W 8 rfl) (W 9 rfl) (W 10 rfl) e0 (g := (mkF m 87 #[.val (.int 4), .val (.int c0), .val (.int c1), .val (.int c2), .val (.int c3)] [])) rfl (hB d29_87) (by decide) (by decide)
  obtain ⟨b555, g555⟩ : ∃ z, z = h0.size := ⟨_, rfl⟩
  rw [← g555] at A555 D555 st555
  have Z556 : n0 ≤ h555.size := Nat.le_trans Z0 E555.1
  have K0_556 : Keep h0 h555 [] := (Keep.refl h0 []).ext E555
  have O556 : Old Z n0 h555 := X00.ext E555
  have lo_b555 : h0.size ≤ b555 := Nat.le_of_eq g555.symm
  have g_b555 : n0 ≤ b555 := Nat.le_trans Z0 lo_b555
  have l0_b555 : h0.size ≤ b555 := Nat.le_trans (Keep.refl h0 []).1 lo_b555
  have F_value_b555 : Fld Z h555 b555 "java/lang/String" "value" "[B" .null := D555 (Or.inr (W 24 rfl)) (ty := (.array .byte)) (by decide)
  have F_coder_b555 : Fld Z h555 b555 "java/lang/String" "coder" "B" (.int 0) := D555 (Or.inr (W 25 rfl)) (ty := .byte) (by decide)
  obtain ⟨T557, h557, k557, X557, e557, E557, A557, st557⟩ := newP X555 hx hZ (W 11 rfl) e555 (g := (mkF m 92 #[.val (.int 4), .val (.int c0), .val (.int c1), .val (.int c2), .val (.int c3)] [.int 4, .ref b555, .ref b555])) rfl (hB d29_92) rfl (by decide) (cap := 4) (by decide) (by decide) (by decide) (by decide)
  obtain ⟨b557, g557⟩ : ∃ z, z = h555.size := ⟨_, rfl⟩
  rw [← g557] at A557 st557
  have Z558 : n0 ≤ h557.size := Nat.le_trans Z556 E557.1
  have K0_558 : Keep h0 h557 [] := K0_556.ext E557
  have O558 : Old Z n0 h557 := O556.ext E557
  have lo_b557 : h555.size ≤ b557 := Nat.le_of_eq g557.symm
  have g_b557 : n0 ≤ b557 := Nat.le_trans Z556 lo_b557
  have l0_b557 : h0.size ≤ b557 := Nat.le_trans K0_556.1 lo_b557
  have V_b557 : Arv Z h557 b557 k557 .char (4 : Int32) [.int 0, .int 0, .int 0, .int 0] (.int 0) := (Arv.new A557 (by decide)).pad (pad_rep [] (.int 0) 4)
  obtain ⟨clq559, Arq559, qaq559, Sq559, Nq559, Hq559, Gq559⟩ := id V_b557
  have hinq559 := inb_of (j := (0 : Int32)) Sq559 ⟨by decide, by decide⟩
  obtain ⟨T560, h560, X560, e560, W560, st560⟩ := stC X557 hx hZ e557 Arq559 (j := (0 : Int32)) hinq559 (g := (mkF m 97 #[.val (.int 4), .val (.int c0), .val (.int c1), .val (.int c2), .val (.int c3)] [.int c0, .int 0, .ref b557, .ref b557, .ref b555, .ref b555])) rfl rfl (hB d29_97)
  have V560 : Arv Z h560 b557 k557 .char (4 : Int32) [(.int (nar .char c0)), .int 0, .int 0, .int 0] (.int 0) := Arv.set Arq559 qaq559 Sq559 Nq559 Hq559 Gq559 (fits_nar_char _) W560 0 rfl (own_ble rfl)
  rw [own_n16 hu0] at V560
  have Z561 : n0 ≤ h560.size := Nat.le_trans Z558 (Keep.of_wr W560).1
  have K0_561 : Keep h0 h560 [] := K0_558.wr W560 (Or.inr l0_b557)
  have O561 : Old Z n0 h560 := O558.wr W560 g_b557
  have N560 := Fr.snoc X560 N0 g_b557
  obtain ⟨clq562, Arq562, qaq562, Sq562, Nq562, Hq562, Gq562⟩ := id V560
  have hinq562 := inb_of (j := (1 : Int32)) Sq562 ⟨by decide, by decide⟩
  obtain ⟨T563, h563, X563, e563, W563, st563⟩ := stC X560 hx hZ e560 Arq562 (j := (1 : Int32)) hinq562 (g := (mkF m 101 #[.val (.int 4), .val (.int c0), .val (.int c1), .val (.int c2), .val (.int c3)] [.int c1, .int 1, .ref b557, .ref b557, .ref b555, .ref b555])) rfl rfl (hB d29_101)
  have V563 : Arv Z h563 b557 k557 .char (4 : Int32) [.int c0, (.int (nar .char c1)), .int 0, .int 0] (.int 0) := Arv.set Arq562 qaq562 Sq562 Nq562 Hq562 Gq562 (fits_nar_char _) W563 1 rfl (own_ble rfl)
  rw [own_n16 hu1] at V563
  have Z564 : n0 ≤ h563.size := Nat.le_trans Z561 (Keep.of_wr W563).1
  have K0_564 : Keep h0 h563 [] := K0_561.wr W563 (Or.inr l0_b557)
  have O564 : Old Z n0 h563 := O561.wr W563 g_b557
  have N563 := Fr.snoc X563 N560 g_b557
  obtain ⟨clq565, Arq565, qaq565, Sq565, Nq565, Hq565, Gq565⟩ := id V563
  have hinq565 := inb_of (j := (2 : Int32)) Sq565 ⟨by decide, by decide⟩
  obtain ⟨T566, h566, X566, e566, W566, st566⟩ := stC X563 hx hZ e563 Arq565 (j := (2 : Int32)) hinq565 (g := (mkF m 105 #[.val (.int 4), .val (.int c0), .val (.int c1), .val (.int c2), .val (.int c3)] [.int c2, .int 2, .ref b557, .ref b557, .ref b555, .ref b555])) rfl rfl (hB d29_105)
  have V566 : Arv Z h566 b557 k557 .char (4 : Int32) [.int c0, .int c1, (.int (nar .char c2)), .int 0] (.int 0) := Arv.set Arq565 qaq565 Sq565 Nq565 Hq565 Gq565 (fits_nar_char _) W566 2 rfl (own_ble rfl)
  rw [own_n16 hu2] at V566
  have Z567 : n0 ≤ h566.size := Nat.le_trans Z564 (Keep.of_wr W566).1
  have K0_567 : Keep h0 h566 [] := K0_564.wr W566 (Or.inr l0_b557)
  have O567 : Old Z n0 h566 := O564.wr W566 g_b557
  have N566 := Fr.snoc X566 N563 g_b557
  obtain ⟨clq568, Arq568, qaq568, Sq568, Nq568, Hq568, Gq568⟩ := id V566
  have hinq568 := inb_of (j := (3 : Int32)) Sq568 ⟨by decide, by decide⟩
  obtain ⟨T569, h569, X569, e569, W569, st569⟩ := stC X566 hx hZ e566 Arq568 (j := (3 : Int32)) hinq568 (g := (mkF m 110 #[.val (.int 4), .val (.int c0), .val (.int c1), .val (.int c2), .val (.int c3)] [.int c3, .int 3, .ref b557, .ref b557, .ref b555, .ref b555])) rfl rfl (hB d29_110)
  have V569 : Arv Z h569 b557 k557 .char (4 : Int32) [.int c0, .int c1, .int c2, (.int (nar .char c3))] (.int 0) := Arv.set Arq568 qaq568 Sq568 Nq568 Hq568 Gq568 (fits_nar_char _) W569 3 rfl (own_ble rfl)
  rw [own_n16 hu3] at V569
  have Z570 : n0 ≤ h569.size := Nat.le_trans Z567 (Keep.of_wr W569).1
  have K0_570 : Keep h0 h569 [] := K0_567.wr W569 (Or.inr l0_b557)
  have O570 : Old Z n0 h569 := O567.wr W569 g_b557
  have N569 := Fr.snoc X569 N566 g_b557
  have f572 := (((((A555.ext E557).wr W560).wr W563).wr W566).wr W569)
  have f573 := (((((F_value_b555.ext E557).other W560 (Or.inl (Nat.ne_of_lt (Nat.lt_of_lt_of_le A555.lt lo_b557)))).other W563 (Or.inl (Nat.ne_of_lt (Nat.lt_of_lt_of_le A555.lt lo_b557)))).other W566 (Or.inl (Nat.ne_of_lt (Nat.lt_of_lt_of_le A555.lt lo_b557)))).other W569 (Or.inl (Nat.ne_of_lt (Nat.lt_of_lt_of_le A555.lt lo_b557))))
  have f574 := (((((F_coder_b555.ext E557).other W560 (Or.inl (Nat.ne_of_lt (Nat.lt_of_lt_of_le A555.lt lo_b557)))).other W563 (Or.inl (Nat.ne_of_lt (Nat.lt_of_lt_of_le A555.lt lo_b557)))).other W566 (Or.inl (Nat.ne_of_lt (Nat.lt_of_lt_of_le A555.lt lo_b557)))).other W569 (Or.inl (Nat.ne_of_lt (Nat.lt_of_lt_of_le A555.lt lo_b557))))
  -- pc 111: java/lang/String.<init>
  obtain ⟨_, _, ⟨T571, L571, k571, n571⟩, -, X571, ⟨Lc571, hQ571, l571, y571, z571⟩, st571⟩ := X569.specialBack hx (y := y13) rfl hown (mvT hZ (W 12 rfl)) (mvT hZ (W 13 rfl)) (mvT hZ (W 14 rfl)) (by decide) (backOf (W := 1) (rmini4 l Z a0 G1 fm hG [] b555 b557 k557 c0 c1 c2 c3 h569 n0 Z570 O570 f572 g_b555 f573 f574 V569 (Ne.symm (Nat.ne_of_lt (Nat.lt_of_lt_of_le A555.lt lo_b557))) (own_all4 hu0 hu1 hu2 hu3)) hZ (W 14 rfl) (W 10 rfl) (by decide) (by decide)) (g := (mkF m 111 #[.val (.int 4), .val (.int c0), .val (.int c1), .val (.int c2), .val (.int c3)] [.ref b557, .ref b555, .ref b555])) rfl (by rw [hml]; rfl) (Steps.refl _) (a := b555) (argsL := [.ref b557]) (rest := [.ref b555]) (lenOf pd___C_V rfl) rfl (by show 2 * 0 + _ ≤ _; exact Nat.le_of_eq rfl) (hB d29_111) (fun _ _ => ⟨rfl, e569, (by decide : 2 + 2 ≤ _), (by decide : 8 + 12 ≤ _)⟩)
  dsimp only [Pt.U, Pt.locs, Pt.cells, Pt.slots] at X571 l571 y571 z571 st571 hQ571
  subst l571 y571 z571
  obtain ⟨t_571, kb_571, cd_571, z_571, vs_571, rfl, N571q, K571, f571_0, f571_1, f571_2, f571_3, f571_4⟩ := hQ571
  have N571 := Fr.app N569 N571q
  have Z575 : n0 ≤ T571.heap.size := Nat.le_trans Z570 K571.1
  have K0_575 : Keep h0 T571.heap [] := K0_570.trans K571 (allS (Or.inr l0_b555) all0)
  have O575 : Old Z n0 T571.heap := O570.keep K571 (allS g_b555 all0)
  obtain ⟨fs, hr, hrun, hended, hW, hsame⟩ := X571.leave (v := some (.ref b555)) (fun h => by rw [Bd.returns] at h; cases h)
  refine ⟨_, _, castTop (ef_method_3_code_IIIII m (4 : Int32) c0 c1 c2 c3) ?_, hrun, hended, _, _, rfl, ?_, ⟨_, rfl⟩, hW, hsame.mono (own_ble rfl) (own_ble rfl)⟩
  · show Steps _ _ _ (s₁.setTop (mkF m 0 #[.val (.int 4), .val (.int c0), .val (.int c1), .val (.int c2), .val (.int c3)] [])) _
    refine XS.iloadN X0.here hx rfl (hB d29_0) rfl ?_
    refine XS.ifYes X0.here hx rfl (pc0 := 1) (pc' := 15) rfl (hB d29_1) rfl ((if0 _ _).trans (feq (by decide : ¬ ((4 : Int32) = (0 : Int32)))).2) (by decide) (by decide) ?_
    refine XS.iloadN X0.here hx rfl (hB d29_15) rfl ?_
    refine XS.iconst X0.here hx rfl (hB d29_16) ?_
    refine XS.icmpYes X0.here hx rfl (pc0 := 17) (pc' := 35) rfl (hB d29_17) rfl (feq (by decide : ¬ ((4 : Int32) = (1 : Int32)))).2 (by decide) (by decide) ?_
    refine XS.iloadN X0.here hx rfl (hB d29_35) rfl ?_
    refine XS.iconst X0.here hx rfl (hB d29_36) ?_
    refine XS.icmpYes X0.here hx rfl (pc0 := 37) (pc' := 59) rfl (hB d29_37) rfl (feq (by decide : ¬ ((4 : Int32) = (2 : Int32)))).2 (by decide) (by decide) ?_
    refine XS.iloadN X0.here hx rfl (hB d29_59) rfl ?_
    refine XS.iconst X0.here hx rfl (hB d29_60) ?_
    refine XS.icmpYes X0.here hx rfl (pc0 := 61) (pc' := 87) rfl (hB d29_61) rfl (feq (by decide : ¬ ((4 : Int32) = (3 : Int32)))).2 (by decide) (by decide) ?_
    refine st555 _ ?_
    show Steps _ _ _ (T555.setTop (mkF m 90 #[.val (.int 4), .val (.int c0), .val (.int c1), .val (.int c2), .val (.int c3)] [.ref b555])) _
    refine XS.dup X555.here hx rfl (hB d29_90) rfl rfl ?_
    refine XS.iconst X555.here hx rfl (hB d29_91) ?_
    refine st557 _ ?_
    show Steps _ _ _ (T557.setTop (mkF m 94 #[.val (.int 4), .val (.int c0), .val (.int c1), .val (.int c2), .val (.int c3)] [.ref b557, .ref b555, .ref b555])) _
    refine XS.dup X557.here hx rfl (hB d29_94) rfl rfl ?_
    refine XS.iconst X557.here hx rfl (hB d29_95) ?_
    refine XS.iloadN X557.here hx rfl (hB d29_96) rfl ?_
    refine st560 _ ?_
    show Steps _ _ _ (T560.setTop (mkF m 98 #[.val (.int 4), .val (.int c0), .val (.int c1), .val (.int c2), .val (.int c3)] [.ref b557, .ref b555, .ref b555])) _
    refine XS.dup X560.here hx rfl (hB d29_98) rfl rfl ?_
    refine XS.iconst X560.here hx rfl (hB d29_99) ?_
    refine XS.iloadN X560.here hx rfl (hB d29_100) rfl ?_
    refine st563 _ ?_
    show Steps _ _ _ (T563.setTop (mkF m 102 #[.val (.int 4), .val (.int c0), .val (.int c1), .val (.int c2), .val (.int c3)] [.ref b557, .ref b555, .ref b555])) _
    refine XS.dup X563.here hx rfl (hB d29_102) rfl rfl ?_
    refine XS.iconst X563.here hx rfl (hB d29_103) ?_
    refine XS.iloadN X563.here hx rfl (hB d29_104) rfl ?_
    refine st566 _ ?_
    show Steps _ _ _ (T566.setTop (mkF m 106 #[.val (.int 4), .val (.int c0), .val (.int c1), .val (.int c2), .val (.int c3)] [.ref b557, .ref b555, .ref b555])) _
    refine XS.dup X566.here hx rfl (hB d29_106) rfl rfl ?_
    refine XS.iconst X566.here hx rfl (hB d29_107) ?_
    refine XS.iload X566.here hx rfl (hB d29_108) rfl ?_
    refine st569 _ ?_
    show Steps _ _ _ (T569.setTop (mkF m 111 #[.val (.int 4), .val (.int c0), .val (.int c1), .val (.int c2), .val (.int c3)] [.ref b557, .ref b555, .ref b555])) _
    refine st571.trans ?_
    show Steps _ _ _ (T571.setTop (mkF m 114 #[.val (.int 4), .val (.int c0), .val (.int c1), .val (.int c2), .val (.int c3)] [.ref b555])) _
    exact retOut X571 hx Bd.returns rfl (Or.inr (Or.inr (Or.inr (Or.inr ⟨rfl, rfl, rfl⟩)))) (hB d29_114) hr
  · show Qmk4 Z G1 fm c0 c1 c2 c3 h0 n0 _ T571.heap _
    exact ⟨b555, t_571, kb_571, cd_571, z_571, vs_571, rfl, N571, K0_575, l0_b555, f571_0, f571_1, f571_2, f571_3, f571_4⟩
def own_fit (nn : Int32) (cs : List Int32) (c0 c1 c2 c3 : Int32) : Prop := (nn = 0 ∧ cs = []) ∨ (nn = 1 ∧ cs = [c0]) ∨ (nn = 2 ∧ cs = [c0, c1]) ∨ (nn = 3 ∧ cs = [c0, c1, c2]) ∨ (nn = 4 ∧ cs = [c0, c1, c2, c3])
theorem sgexp_h0 {p : Program} {l : Launch} {e : Env} {s : State} {m : MethodId} {args : Array Value} {below : List Frame} {meth : Method} {c : Code} {T0 : State} {locs : List Loc} (Z : State) (a0 : Array Value) (G1 : Int32) (fm : Value) (hG : Glob Z a0 G1 fm) (p0 : Int32) (p1 : Int32) (p2 : Int32) (p3 : Int32) (p4 : Int32) (nn : Int32) (c0 : Int32) (c1 : Int32) (c2 : Int32) (c3 : Int32) (b2 : Addr) (cs : List Int32) (kc : Nat) (ks : Nat) (h0 : Heap) (n0 : Nat) (Z0 : n0 ≤ h0.size) (X00 : Old Z n0 h0) (hfit : own_fit nn cs c0 c1 c2 c3) (hv : own_has cs = (1 : Int32)) (hc51 : ¬ (nn < (1 : Int32))) (hc58 : c0 = (45 : Int32)) (X0 : Stand p l e room_1 s m args below meth c T0 locs kc ks) (hx : p.tables.exec = Jvm.exec) (hZ : Z.Warmed39 s.vm) (hby : c.code = code) (hml : c.maxLocals = 12) (hown : s.vm.findClass "com/example/label_lattice/labellattice/RangeIsWrittenAsRangePinLaw" = some m.cls) (e0 : T0.heap = h0) (N0 : Fr n0 locs) :
    ∃ (T' : State) (L' : List Loc), Stand p l e room_1 s m args below meth c T' L' kc ks ∧ Fr n0 L' ∧ Keep h0 T'.heap [] ∧ ∀ target, Steps p.tables e below (T'.setTop (mkF m 105 #[.val (.int p0), .val (.int p1), .val (.int p2), .val (.int p3), .val (.int p4), .val (.int nn), .val (.int c0), .val (.int c1), .val (.int c2), .val (.int c3), .val (.ref b2), .unset] [(.int (own_has cs))])) target → Steps p.tables e below (T0.setTop (mkF m 48 #[.val (.int p0), .val (.int p1), .val (.int p2), .val (.int p3), .val (.int p4), .val (.int nn), .val (.int c0), .val (.int c1), .val (.int c2), .val (.int c3), .val (.ref b2), .unset] [])) target := by
  obtain ⟨hw, O_cs, P_cs, O_as, O_hi, O_lo, O_fm, R_fm⟩ := id hG
  have W := @own_W _ _ hw
  have hB := @hb _ _ hby
  refine ⟨T0, _, X0, N0, ?_⟩
  rw [e0]
  refine ⟨(Keep.refl h0 []), fun target kt => ?_⟩
  show Steps _ _ _ (T0.setTop (mkF m 48 #[.val (.int p0), .val (.int p1), .val (.int p2), .val (.int p3), .val (.int p4), .val (.int nn), .val (.int c0), .val (.int c1), .val (.int c2), .val (.int c3), .val (.ref b2), .unset] [])) _
  refine XS.iload X0.here hx rfl (hB at_48) rfl ?_
  refine XS.iconst X0.here hx rfl (hB at_50) ?_
  refine XS.icmpNo X0.here hx rfl (hB at_51) rfl (flt (hc51 : ¬ (nn < (1 : Int32)))).1 ?_
  refine XS.iload X0.here hx rfl (hB at_54) rfl ?_
  refine XS.bipush X0.here hx rfl (hB at_56) ?_
  refine XS.icmpYes X0.here hx rfl (pc0 := 58) (pc' := 100) rfl (hB at_58) rfl (teq (hc58 : c0 = (45 : Int32))).1 (by decide) (by decide) ?_
  refine XS.iconst X0.here hx rfl (hB at_100) ?_
  refine XS.goto X0.here hx rfl (pc0 := 101) (pc' := 105) rfl (hB at_101) (by decide) (by decide) ?_
  rw [hv] at kt
  exact kt
theorem sgexp_h1 {p : Program} {l : Launch} {e : Env} {s : State} {m : MethodId} {args : Array Value} {below : List Frame} {meth : Method} {c : Code} {T0 : State} {locs : List Loc} (Z : State) (a0 : Array Value) (G1 : Int32) (fm : Value) (hG : Glob Z a0 G1 fm) (p0 : Int32) (p1 : Int32) (p2 : Int32) (p3 : Int32) (p4 : Int32) (nn : Int32) (c0 : Int32) (c1 : Int32) (c2 : Int32) (c3 : Int32) (b2 : Addr) (cs : List Int32) (kc : Nat) (ks : Nat) (h0 : Heap) (n0 : Nat) (Z0 : n0 ≤ h0.size) (X00 : Old Z n0 h0) (hfit : own_fit nn cs c0 c1 c2 c3) (hv : own_has cs = (1 : Int32)) (hc51 : ¬ (nn < (1 : Int32))) (hc58 : ¬ (c0 = (45 : Int32))) (hc64 : ¬ (nn < (2 : Int32))) (hc71 : c1 = (45 : Int32)) (X0 : Stand p l e room_1 s m args below meth c T0 locs kc ks) (hx : p.tables.exec = Jvm.exec) (hZ : Z.Warmed39 s.vm) (hby : c.code = code) (hml : c.maxLocals = 12) (hown : s.vm.findClass "com/example/label_lattice/labellattice/RangeIsWrittenAsRangePinLaw" = some m.cls) (e0 : T0.heap = h0) (N0 : Fr n0 locs) :
    ∃ (T' : State) (L' : List Loc), Stand p l e room_1 s m args below meth c T' L' kc ks ∧ Fr n0 L' ∧ Keep h0 T'.heap [] ∧ ∀ target, Steps p.tables e below (T'.setTop (mkF m 105 #[.val (.int p0), .val (.int p1), .val (.int p2), .val (.int p3), .val (.int p4), .val (.int nn), .val (.int c0), .val (.int c1), .val (.int c2), .val (.int c3), .val (.ref b2), .unset] [(.int (own_has cs))])) target → Steps p.tables e below (T0.setTop (mkF m 48 #[.val (.int p0), .val (.int p1), .val (.int p2), .val (.int p3), .val (.int p4), .val (.int nn), .val (.int c0), .val (.int c1), .val (.int c2), .val (.int c3), .val (.ref b2), .unset] [])) target := by
  obtain ⟨hw, O_cs, P_cs, O_as, O_hi, O_lo, O_fm, R_fm⟩ := id hG
  have W := @own_W _ _ hw
  have hB := @hb _ _ hby
  refine ⟨T0, _, X0, N0, ?_⟩
  rw [e0]
  refine ⟨(Keep.refl h0 []), fun target kt => ?_⟩
  show Steps _ _ _ (T0.setTop (mkF m 48 #[.val (.int p0), .val (.int p1), .val (.int p2), .val (.int p3), .val (.int p4), .val (.int nn), .val (.int c0), .val (.int c1), .val (.int c2), .val (.int c3), .val (.ref b2), .unset] [])) _
  refine XS.iload X0.here hx rfl (hB at_48) rfl ?_
  refine XS.iconst X0.here hx rfl (hB at_50) ?_
  refine XS.icmpNo X0.here hx rfl (hB at_51) rfl (flt (hc51 : ¬ (nn < (1 : Int32)))).1 ?_
  refine XS.iload X0.here hx rfl (hB at_54) rfl ?_
  refine XS.bipush X0.here hx rfl (hB at_56) ?_
  refine XS.icmpNo X0.here hx rfl (hB at_58) rfl (feq (hc58 : ¬ (c0 = (45 : Int32)))).1 ?_
  refine XS.iload X0.here hx rfl (hB at_61) rfl ?_
  refine XS.iconst X0.here hx rfl (hB at_63) ?_
  refine XS.icmpNo X0.here hx rfl (hB at_64) rfl (flt (hc64 : ¬ (nn < (2 : Int32)))).1 ?_
  refine XS.iload X0.here hx rfl (hB at_67) rfl ?_
  refine XS.bipush X0.here hx rfl (hB at_69) ?_
  refine XS.icmpYes X0.here hx rfl (pc0 := 71) (pc' := 100) rfl (hB at_71) rfl (teq (hc71 : c1 = (45 : Int32))).1 (by decide) (by decide) ?_
  refine XS.iconst X0.here hx rfl (hB at_100) ?_
  refine XS.goto X0.here hx rfl (pc0 := 101) (pc' := 105) rfl (hB at_101) (by decide) (by decide) ?_
  rw [hv] at kt
  exact kt
theorem sgexp_h2 {p : Program} {l : Launch} {e : Env} {s : State} {m : MethodId} {args : Array Value} {below : List Frame} {meth : Method} {c : Code} {T0 : State} {locs : List Loc} (Z : State) (a0 : Array Value) (G1 : Int32) (fm : Value) (hG : Glob Z a0 G1 fm) (p0 : Int32) (p1 : Int32) (p2 : Int32) (p3 : Int32) (p4 : Int32) (nn : Int32) (c0 : Int32) (c1 : Int32) (c2 : Int32) (c3 : Int32) (b2 : Addr) (cs : List Int32) (kc : Nat) (ks : Nat) (h0 : Heap) (n0 : Nat) (Z0 : n0 ≤ h0.size) (X00 : Old Z n0 h0) (hfit : own_fit nn cs c0 c1 c2 c3) (hv : own_has cs = (1 : Int32)) (hc51 : ¬ (nn < (1 : Int32))) (hc58 : ¬ (c0 = (45 : Int32))) (hc64 : ¬ (nn < (2 : Int32))) (hc71 : ¬ (c1 = (45 : Int32))) (hc77 : ¬ (nn < (3 : Int32))) (hc84 : c2 = (45 : Int32)) (X0 : Stand p l e room_1 s m args below meth c T0 locs kc ks) (hx : p.tables.exec = Jvm.exec) (hZ : Z.Warmed39 s.vm) (hby : c.code = code) (hml : c.maxLocals = 12) (hown : s.vm.findClass "com/example/label_lattice/labellattice/RangeIsWrittenAsRangePinLaw" = some m.cls) (e0 : T0.heap = h0) (N0 : Fr n0 locs) :
    ∃ (T' : State) (L' : List Loc), Stand p l e room_1 s m args below meth c T' L' kc ks ∧ Fr n0 L' ∧ Keep h0 T'.heap [] ∧ ∀ target, Steps p.tables e below (T'.setTop (mkF m 105 #[.val (.int p0), .val (.int p1), .val (.int p2), .val (.int p3), .val (.int p4), .val (.int nn), .val (.int c0), .val (.int c1), .val (.int c2), .val (.int c3), .val (.ref b2), .unset] [(.int (own_has cs))])) target → Steps p.tables e below (T0.setTop (mkF m 48 #[.val (.int p0), .val (.int p1), .val (.int p2), .val (.int p3), .val (.int p4), .val (.int nn), .val (.int c0), .val (.int c1), .val (.int c2), .val (.int c3), .val (.ref b2), .unset] [])) target := by
  obtain ⟨hw, O_cs, P_cs, O_as, O_hi, O_lo, O_fm, R_fm⟩ := id hG
  have W := @own_W _ _ hw
  have hB := @hb _ _ hby
  refine ⟨T0, _, X0, N0, ?_⟩
  rw [e0]
  refine ⟨(Keep.refl h0 []), fun target kt => ?_⟩
  show Steps _ _ _ (T0.setTop (mkF m 48 #[.val (.int p0), .val (.int p1), .val (.int p2), .val (.int p3), .val (.int p4), .val (.int nn), .val (.int c0), .val (.int c1), .val (.int c2), .val (.int c3), .val (.ref b2), .unset] [])) _
  refine XS.iload X0.here hx rfl (hB at_48) rfl ?_
  refine XS.iconst X0.here hx rfl (hB at_50) ?_
  refine XS.icmpNo X0.here hx rfl (hB at_51) rfl (flt (hc51 : ¬ (nn < (1 : Int32)))).1 ?_
  refine XS.iload X0.here hx rfl (hB at_54) rfl ?_
  refine XS.bipush X0.here hx rfl (hB at_56) ?_
  refine XS.icmpNo X0.here hx rfl (hB at_58) rfl (feq (hc58 : ¬ (c0 = (45 : Int32)))).1 ?_
  refine XS.iload X0.here hx rfl (hB at_61) rfl ?_
  refine XS.iconst X0.here hx rfl (hB at_63) ?_
  refine XS.icmpNo X0.here hx rfl (hB at_64) rfl (flt (hc64 : ¬ (nn < (2 : Int32)))).1 ?_
  refine XS.iload X0.here hx rfl (hB at_67) rfl ?_
  refine XS.bipush X0.here hx rfl (hB at_69) ?_
  refine XS.icmpNo X0.here hx rfl (hB at_71) rfl (feq (hc71 : ¬ (c1 = (45 : Int32)))).1 ?_
  refine XS.iload X0.here hx rfl (hB at_74) rfl ?_
  refine XS.iconst X0.here hx rfl (hB at_76) ?_
  refine XS.icmpNo X0.here hx rfl (hB at_77) rfl (flt (hc77 : ¬ (nn < (3 : Int32)))).1 ?_
  refine XS.iload X0.here hx rfl (hB at_80) rfl ?_
  show Steps _ _ _ (T0.setTop (mkF m 82 #[.val (.int p0), .val (.int p1), .val (.int p2), .val (.int p3), .val (.int p4), .val (.int nn), .val (.int c0), .val (.int c1), .val (.int c2), .val (.int c3), .val (.ref b2), .unset] [.int c2])) _
  refine XS.bipush X0.here hx rfl (hB at_82) ?_
  refine XS.icmpYes X0.here hx rfl (pc0 := 84) (pc' := 100) rfl (hB at_84) rfl (teq (hc84 : c2 = (45 : Int32))).1 (by decide) (by decide) ?_
  refine XS.iconst X0.here hx rfl (hB at_100) ?_
  refine XS.goto X0.here hx rfl (pc0 := 101) (pc' := 105) rfl (hB at_101) (by decide) (by decide) ?_
  rw [hv] at kt
  exact kt
theorem sgexp_h3 {p : Program} {l : Launch} {e : Env} {s : State} {m : MethodId} {args : Array Value} {below : List Frame} {meth : Method} {c : Code} {T0 : State} {locs : List Loc} (Z : State) (a0 : Array Value) (G1 : Int32) (fm : Value) (hG : Glob Z a0 G1 fm) (p0 : Int32) (p1 : Int32) (p2 : Int32) (p3 : Int32) (p4 : Int32) (nn : Int32) (c0 : Int32) (c1 : Int32) (c2 : Int32) (c3 : Int32) (b2 : Addr) (cs : List Int32) (kc : Nat) (ks : Nat) (h0 : Heap) (n0 : Nat) (Z0 : n0 ≤ h0.size) (X00 : Old Z n0 h0) (hfit : own_fit nn cs c0 c1 c2 c3) (hv : own_has cs = (1 : Int32)) (hc51 : ¬ (nn < (1 : Int32))) (hc58 : ¬ (c0 = (45 : Int32))) (hc64 : ¬ (nn < (2 : Int32))) (hc71 : ¬ (c1 = (45 : Int32))) (hc77 : ¬ (nn < (3 : Int32))) (hc84 : ¬ (c2 = (45 : Int32))) (hc90 : ¬ (nn < (4 : Int32))) (hc97 : c3 = (45 : Int32)) (X0 : Stand p l e room_1 s m args below meth c T0 locs kc ks) (hx : p.tables.exec = Jvm.exec) (hZ : Z.Warmed39 s.vm) (hby : c.code = code) (hml : c.maxLocals = 12) (hown : s.vm.findClass "com/example/label_lattice/labellattice/RangeIsWrittenAsRangePinLaw" = some m.cls) (e0 : T0.heap = h0) (N0 : Fr n0 locs) :
    ∃ (T' : State) (L' : List Loc), Stand p l e room_1 s m args below meth c T' L' kc ks ∧ Fr n0 L' ∧ Keep h0 T'.heap [] ∧ ∀ target, Steps p.tables e below (T'.setTop (mkF m 105 #[.val (.int p0), .val (.int p1), .val (.int p2), .val (.int p3), .val (.int p4), .val (.int nn), .val (.int c0), .val (.int c1), .val (.int c2), .val (.int c3), .val (.ref b2), .unset] [(.int (own_has cs))])) target → Steps p.tables e below (T0.setTop (mkF m 48 #[.val (.int p0), .val (.int p1), .val (.int p2), .val (.int p3), .val (.int p4), .val (.int nn), .val (.int c0), .val (.int c1), .val (.int c2), .val (.int c3), .val (.ref b2), .unset] [])) target := by
  obtain ⟨hw, O_cs, P_cs, O_as, O_hi, O_lo, O_fm, R_fm⟩ := id hG
  have W := @own_W _ _ hw
  have hB := @hb _ _ hby
  refine ⟨T0, _, X0, N0, ?_⟩
  rw [e0]
  refine ⟨(Keep.refl h0 []), fun target kt => ?_⟩
  show Steps _ _ _ (T0.setTop (mkF m 48 #[.val (.int p0), .val (.int p1), .val (.int p2), .val (.int p3), .val (.int p4), .val (.int nn), .val (.int c0), .val (.int c1), .val (.int c2), .val (.int c3), .val (.ref b2), .unset] [])) _
  refine XS.iload X0.here hx rfl (hB at_48) rfl ?_
  refine XS.iconst X0.here hx rfl (hB at_50) ?_
  refine XS.icmpNo X0.here hx rfl (hB at_51) rfl (flt (hc51 : ¬ (nn < (1 : Int32)))).1 ?_
  refine XS.iload X0.here hx rfl (hB at_54) rfl ?_
  refine XS.bipush X0.here hx rfl (hB at_56) ?_
  refine XS.icmpNo X0.here hx rfl (hB at_58) rfl (feq (hc58 : ¬ (c0 = (45 : Int32)))).1 ?_
  refine XS.iload X0.here hx rfl (hB at_61) rfl ?_
  refine XS.iconst X0.here hx rfl (hB at_63) ?_
  refine XS.icmpNo X0.here hx rfl (hB at_64) rfl (flt (hc64 : ¬ (nn < (2 : Int32)))).1 ?_
  refine XS.iload X0.here hx rfl (hB at_67) rfl ?_
  refine XS.bipush X0.here hx rfl (hB at_69) ?_
  refine XS.icmpNo X0.here hx rfl (hB at_71) rfl (feq (hc71 : ¬ (c1 = (45 : Int32)))).1 ?_
  refine XS.iload X0.here hx rfl (hB at_74) rfl ?_
  refine XS.iconst X0.here hx rfl (hB at_76) ?_
  refine XS.icmpNo X0.here hx rfl (hB at_77) rfl (flt (hc77 : ¬ (nn < (3 : Int32)))).1 ?_
  refine XS.iload X0.here hx rfl (hB at_80) rfl ?_
  show Steps _ _ _ (T0.setTop (mkF m 82 #[.val (.int p0), .val (.int p1), .val (.int p2), .val (.int p3), .val (.int p4), .val (.int nn), .val (.int c0), .val (.int c1), .val (.int c2), .val (.int c3), .val (.ref b2), .unset] [.int c2])) _
  refine XS.bipush X0.here hx rfl (hB at_82) ?_
  refine XS.icmpNo X0.here hx rfl (hB at_84) rfl (feq (hc84 : ¬ (c2 = (45 : Int32)))).1 ?_
  refine XS.iload X0.here hx rfl (hB at_87) rfl ?_
  refine XS.iconst X0.here hx rfl (hB at_89) ?_
  refine XS.icmpNo X0.here hx rfl (hB at_90) rfl (flt (hc90 : ¬ (nn < (4 : Int32)))).1 ?_
  refine XS.iload X0.here hx rfl (hB at_93) rfl ?_
  refine XS.bipush X0.here hx rfl (hB at_95) ?_
  refine XS.icmpNo X0.here hx rfl (hB at_97) rfl (teq (hc97 : c3 = (45 : Int32))).2 ?_
  refine XS.iconst X0.here hx rfl (hB at_100) ?_
  refine XS.goto X0.here hx rfl (pc0 := 101) (pc' := 105) rfl (hB at_101) (by decide) (by decide) ?_
  rw [hv] at kt
  exact kt
theorem sgexp_m0 {p : Program} {l : Launch} {e : Env} {s : State} {m : MethodId} {args : Array Value} {below : List Frame} {meth : Method} {c : Code} {T0 : State} {locs : List Loc} (Z : State) (a0 : Array Value) (G1 : Int32) (fm : Value) (hG : Glob Z a0 G1 fm) (p0 : Int32) (p1 : Int32) (p2 : Int32) (p3 : Int32) (p4 : Int32) (nn : Int32) (c0 : Int32) (c1 : Int32) (c2 : Int32) (c3 : Int32) (b2 : Addr) (cs : List Int32) (kc : Nat) (ks : Nat) (h0 : Heap) (n0 : Nat) (Z0 : n0 ≤ h0.size) (X00 : Old Z n0 h0) (hfit : own_fit nn cs c0 c1 c2 c3) (hv : own_has cs = (0 : Int32)) (hc51 : nn < (1 : Int32)) (hc64 : nn < (2 : Int32)) (hc77 : nn < (3 : Int32)) (hc90 : nn < (4 : Int32)) (X0 : Stand p l e room_1 s m args below meth c T0 locs kc ks) (hx : p.tables.exec = Jvm.exec) (hZ : Z.Warmed39 s.vm) (hby : c.code = code) (hml : c.maxLocals = 12) (hown : s.vm.findClass "com/example/label_lattice/labellattice/RangeIsWrittenAsRangePinLaw" = some m.cls) (e0 : T0.heap = h0) (N0 : Fr n0 locs) :
    ∃ (T' : State) (L' : List Loc), Stand p l e room_1 s m args below meth c T' L' kc ks ∧ Fr n0 L' ∧ Keep h0 T'.heap [] ∧ ∀ target, Steps p.tables e below (T'.setTop (mkF m 105 #[.val (.int p0), .val (.int p1), .val (.int p2), .val (.int p3), .val (.int p4), .val (.int nn), .val (.int c0), .val (.int c1), .val (.int c2), .val (.int c3), .val (.ref b2), .unset] [(.int (own_has cs))])) target → Steps p.tables e below (T0.setTop (mkF m 48 #[.val (.int p0), .val (.int p1), .val (.int p2), .val (.int p3), .val (.int p4), .val (.int nn), .val (.int c0), .val (.int c1), .val (.int c2), .val (.int c3), .val (.ref b2), .unset] [])) target := by
  obtain ⟨hw, O_cs, P_cs, O_as, O_hi, O_lo, O_fm, R_fm⟩ := id hG
  have W := @own_W _ _ hw
  have hB := @hb _ _ hby
  refine ⟨T0, _, X0, N0, ?_⟩
  rw [e0]
  refine ⟨(Keep.refl h0 []), fun target kt => ?_⟩
  show Steps _ _ _ (T0.setTop (mkF m 48 #[.val (.int p0), .val (.int p1), .val (.int p2), .val (.int p3), .val (.int p4), .val (.int nn), .val (.int c0), .val (.int c1), .val (.int c2), .val (.int c3), .val (.ref b2), .unset] [])) _
  refine XS.iload X0.here hx rfl (hB at_48) rfl ?_
  refine XS.iconst X0.here hx rfl (hB at_50) ?_
  refine XS.icmpYes X0.here hx rfl (pc0 := 51) (pc' := 61) rfl (hB at_51) rfl (tlt (hc51 : nn < (1 : Int32))).1 (by decide) (by decide) ?_
  refine XS.iload X0.here hx rfl (hB at_61) rfl ?_
  refine XS.iconst X0.here hx rfl (hB at_63) ?_
  refine XS.icmpYes X0.here hx rfl (pc0 := 64) (pc' := 74) rfl (hB at_64) rfl (tlt (hc64 : nn < (2 : Int32))).1 (by decide) (by decide) ?_
  refine XS.iload X0.here hx rfl (hB at_74) rfl ?_
  refine XS.iconst X0.here hx rfl (hB at_76) ?_
  refine XS.icmpYes X0.here hx rfl (pc0 := 77) (pc' := 87) rfl (hB at_77) rfl (tlt (hc77 : nn < (3 : Int32))).1 (by decide) (by decide) ?_
  refine XS.iload X0.here hx rfl (hB at_87) rfl ?_
  refine XS.iconst X0.here hx rfl (hB at_89) ?_
  refine XS.icmpYes X0.here hx rfl (pc0 := 90) (pc' := 104) rfl (hB at_90) rfl (tlt (hc90 : nn < (4 : Int32))).1 (by decide) (by decide) ?_
  refine XS.iconst X0.here hx rfl (hB at_104) ?_
  rw [hv] at kt
  exact kt
theorem sgexp_m1 {p : Program} {l : Launch} {e : Env} {s : State} {m : MethodId} {args : Array Value} {below : List Frame} {meth : Method} {c : Code} {T0 : State} {locs : List Loc} (Z : State) (a0 : Array Value) (G1 : Int32) (fm : Value) (hG : Glob Z a0 G1 fm) (p0 : Int32) (p1 : Int32) (p2 : Int32) (p3 : Int32) (p4 : Int32) (nn : Int32) (c0 : Int32) (c1 : Int32) (c2 : Int32) (c3 : Int32) (b2 : Addr) (cs : List Int32) (kc : Nat) (ks : Nat) (h0 : Heap) (n0 : Nat) (Z0 : n0 ≤ h0.size) (X00 : Old Z n0 h0) (hfit : own_fit nn cs c0 c1 c2 c3) (hv : own_has cs = (0 : Int32)) (hc51 : ¬ (nn < (1 : Int32))) (hc58 : ¬ (c0 = (45 : Int32))) (hc64 : nn < (2 : Int32)) (hc77 : nn < (3 : Int32)) (hc90 : nn < (4 : Int32)) (X0 : Stand p l e room_1 s m args below meth c T0 locs kc ks) (hx : p.tables.exec = Jvm.exec) (hZ : Z.Warmed39 s.vm) (hby : c.code = code) (hml : c.maxLocals = 12) (hown : s.vm.findClass "com/example/label_lattice/labellattice/RangeIsWrittenAsRangePinLaw" = some m.cls) (e0 : T0.heap = h0) (N0 : Fr n0 locs) :
    ∃ (T' : State) (L' : List Loc), Stand p l e room_1 s m args below meth c T' L' kc ks ∧ Fr n0 L' ∧ Keep h0 T'.heap [] ∧ ∀ target, Steps p.tables e below (T'.setTop (mkF m 105 #[.val (.int p0), .val (.int p1), .val (.int p2), .val (.int p3), .val (.int p4), .val (.int nn), .val (.int c0), .val (.int c1), .val (.int c2), .val (.int c3), .val (.ref b2), .unset] [(.int (own_has cs))])) target → Steps p.tables e below (T0.setTop (mkF m 48 #[.val (.int p0), .val (.int p1), .val (.int p2), .val (.int p3), .val (.int p4), .val (.int nn), .val (.int c0), .val (.int c1), .val (.int c2), .val (.int c3), .val (.ref b2), .unset] [])) target := by
  obtain ⟨hw, O_cs, P_cs, O_as, O_hi, O_lo, O_fm, R_fm⟩ := id hG
  have W := @own_W _ _ hw
  have hB := @hb _ _ hby
  refine ⟨T0, _, X0, N0, ?_⟩
  rw [e0]
  refine ⟨(Keep.refl h0 []), fun target kt => ?_⟩
  show Steps _ _ _ (T0.setTop (mkF m 48 #[.val (.int p0), .val (.int p1), .val (.int p2), .val (.int p3), .val (.int p4), .val (.int nn), .val (.int c0), .val (.int c1), .val (.int c2), .val (.int c3), .val (.ref b2), .unset] [])) _
  refine XS.iload X0.here hx rfl (hB at_48) rfl ?_
  refine XS.iconst X0.here hx rfl (hB at_50) ?_
  refine XS.icmpNo X0.here hx rfl (hB at_51) rfl (flt (hc51 : ¬ (nn < (1 : Int32)))).1 ?_
  refine XS.iload X0.here hx rfl (hB at_54) rfl ?_
  refine XS.bipush X0.here hx rfl (hB at_56) ?_
  refine XS.icmpNo X0.here hx rfl (hB at_58) rfl (feq (hc58 : ¬ (c0 = (45 : Int32)))).1 ?_
  refine XS.iload X0.here hx rfl (hB at_61) rfl ?_
  refine XS.iconst X0.here hx rfl (hB at_63) ?_
  refine XS.icmpYes X0.here hx rfl (pc0 := 64) (pc' := 74) rfl (hB at_64) rfl (tlt (hc64 : nn < (2 : Int32))).1 (by decide) (by decide) ?_
  refine XS.iload X0.here hx rfl (hB at_74) rfl ?_
  refine XS.iconst X0.here hx rfl (hB at_76) ?_
  refine XS.icmpYes X0.here hx rfl (pc0 := 77) (pc' := 87) rfl (hB at_77) rfl (tlt (hc77 : nn < (3 : Int32))).1 (by decide) (by decide) ?_
  refine XS.iload X0.here hx rfl (hB at_87) rfl ?_
  refine XS.iconst X0.here hx rfl (hB at_89) ?_
  refine XS.icmpYes X0.here hx rfl (pc0 := 90) (pc' := 104) rfl (hB at_90) rfl (tlt (hc90 : nn < (4 : Int32))).1 (by decide) (by decide) ?_
  refine XS.iconst X0.here hx rfl (hB at_104) ?_
  rw [hv] at kt
  exact kt
theorem sgexp_m2 {p : Program} {l : Launch} {e : Env} {s : State} {m : MethodId} {args : Array Value} {below : List Frame} {meth : Method} {c : Code} {T0 : State} {locs : List Loc} (Z : State) (a0 : Array Value) (G1 : Int32) (fm : Value) (hG : Glob Z a0 G1 fm) (p0 : Int32) (p1 : Int32) (p2 : Int32) (p3 : Int32) (p4 : Int32) (nn : Int32) (c0 : Int32) (c1 : Int32) (c2 : Int32) (c3 : Int32) (b2 : Addr) (cs : List Int32) (kc : Nat) (ks : Nat) (h0 : Heap) (n0 : Nat) (Z0 : n0 ≤ h0.size) (X00 : Old Z n0 h0) (hfit : own_fit nn cs c0 c1 c2 c3) (hv : own_has cs = (0 : Int32)) (hc51 : ¬ (nn < (1 : Int32))) (hc58 : ¬ (c0 = (45 : Int32))) (hc64 : ¬ (nn < (2 : Int32))) (hc71 : ¬ (c1 = (45 : Int32))) (hc77 : nn < (3 : Int32)) (hc90 : nn < (4 : Int32)) (X0 : Stand p l e room_1 s m args below meth c T0 locs kc ks) (hx : p.tables.exec = Jvm.exec) (hZ : Z.Warmed39 s.vm) (hby : c.code = code) (hml : c.maxLocals = 12) (hown : s.vm.findClass "com/example/label_lattice/labellattice/RangeIsWrittenAsRangePinLaw" = some m.cls) (e0 : T0.heap = h0) (N0 : Fr n0 locs) :
    ∃ (T' : State) (L' : List Loc), Stand p l e room_1 s m args below meth c T' L' kc ks ∧ Fr n0 L' ∧ Keep h0 T'.heap [] ∧ ∀ target, Steps p.tables e below (T'.setTop (mkF m 105 #[.val (.int p0), .val (.int p1), .val (.int p2), .val (.int p3), .val (.int p4), .val (.int nn), .val (.int c0), .val (.int c1), .val (.int c2), .val (.int c3), .val (.ref b2), .unset] [(.int (own_has cs))])) target → Steps p.tables e below (T0.setTop (mkF m 48 #[.val (.int p0), .val (.int p1), .val (.int p2), .val (.int p3), .val (.int p4), .val (.int nn), .val (.int c0), .val (.int c1), .val (.int c2), .val (.int c3), .val (.ref b2), .unset] [])) target := by
  obtain ⟨hw, O_cs, P_cs, O_as, O_hi, O_lo, O_fm, R_fm⟩ := id hG
  have W := @own_W _ _ hw
  have hB := @hb _ _ hby
  refine ⟨T0, _, X0, N0, ?_⟩
  rw [e0]
  refine ⟨(Keep.refl h0 []), fun target kt => ?_⟩
  show Steps _ _ _ (T0.setTop (mkF m 48 #[.val (.int p0), .val (.int p1), .val (.int p2), .val (.int p3), .val (.int p4), .val (.int nn), .val (.int c0), .val (.int c1), .val (.int c2), .val (.int c3), .val (.ref b2), .unset] [])) _
  refine XS.iload X0.here hx rfl (hB at_48) rfl ?_
  refine XS.iconst X0.here hx rfl (hB at_50) ?_
  refine XS.icmpNo X0.here hx rfl (hB at_51) rfl (flt (hc51 : ¬ (nn < (1 : Int32)))).1 ?_
  refine XS.iload X0.here hx rfl (hB at_54) rfl ?_
  refine XS.bipush X0.here hx rfl (hB at_56) ?_
  refine XS.icmpNo X0.here hx rfl (hB at_58) rfl (feq (hc58 : ¬ (c0 = (45 : Int32)))).1 ?_
  refine XS.iload X0.here hx rfl (hB at_61) rfl ?_
  refine XS.iconst X0.here hx rfl (hB at_63) ?_
  refine XS.icmpNo X0.here hx rfl (hB at_64) rfl (flt (hc64 : ¬ (nn < (2 : Int32)))).1 ?_
  refine XS.iload X0.here hx rfl (hB at_67) rfl ?_
  refine XS.bipush X0.here hx rfl (hB at_69) ?_
  refine XS.icmpNo X0.here hx rfl (hB at_71) rfl (feq (hc71 : ¬ (c1 = (45 : Int32)))).1 ?_
  refine XS.iload X0.here hx rfl (hB at_74) rfl ?_
  refine XS.iconst X0.here hx rfl (hB at_76) ?_
  refine XS.icmpYes X0.here hx rfl (pc0 := 77) (pc' := 87) rfl (hB at_77) rfl (tlt (hc77 : nn < (3 : Int32))).1 (by decide) (by decide) ?_
  refine XS.iload X0.here hx rfl (hB at_87) rfl ?_
  show Steps _ _ _ (T0.setTop (mkF m 89 #[.val (.int p0), .val (.int p1), .val (.int p2), .val (.int p3), .val (.int p4), .val (.int nn), .val (.int c0), .val (.int c1), .val (.int c2), .val (.int c3), .val (.ref b2), .unset] [.int nn])) _
  refine XS.iconst X0.here hx rfl (hB at_89) ?_
  refine XS.icmpYes X0.here hx rfl (pc0 := 90) (pc' := 104) rfl (hB at_90) rfl (tlt (hc90 : nn < (4 : Int32))).1 (by decide) (by decide) ?_
  refine XS.iconst X0.here hx rfl (hB at_104) ?_
  rw [hv] at kt
  exact kt
theorem sgexp_m3 {p : Program} {l : Launch} {e : Env} {s : State} {m : MethodId} {args : Array Value} {below : List Frame} {meth : Method} {c : Code} {T0 : State} {locs : List Loc} (Z : State) (a0 : Array Value) (G1 : Int32) (fm : Value) (hG : Glob Z a0 G1 fm) (p0 : Int32) (p1 : Int32) (p2 : Int32) (p3 : Int32) (p4 : Int32) (nn : Int32) (c0 : Int32) (c1 : Int32) (c2 : Int32) (c3 : Int32) (b2 : Addr) (cs : List Int32) (kc : Nat) (ks : Nat) (h0 : Heap) (n0 : Nat) (Z0 : n0 ≤ h0.size) (X00 : Old Z n0 h0) (hfit : own_fit nn cs c0 c1 c2 c3) (hv : own_has cs = (0 : Int32)) (hc51 : ¬ (nn < (1 : Int32))) (hc58 : ¬ (c0 = (45 : Int32))) (hc64 : ¬ (nn < (2 : Int32))) (hc71 : ¬ (c1 = (45 : Int32))) (hc77 : ¬ (nn < (3 : Int32))) (hc84 : ¬ (c2 = (45 : Int32))) (hc90 : nn < (4 : Int32)) (X0 : Stand p l e room_1 s m args below meth c T0 locs kc ks) (hx : p.tables.exec = Jvm.exec) (hZ : Z.Warmed39 s.vm) (hby : c.code = code) (hml : c.maxLocals = 12) (hown : s.vm.findClass "com/example/label_lattice/labellattice/RangeIsWrittenAsRangePinLaw" = some m.cls) (e0 : T0.heap = h0) (N0 : Fr n0 locs) :
    ∃ (T' : State) (L' : List Loc), Stand p l e room_1 s m args below meth c T' L' kc ks ∧ Fr n0 L' ∧ Keep h0 T'.heap [] ∧ ∀ target, Steps p.tables e below (T'.setTop (mkF m 105 #[.val (.int p0), .val (.int p1), .val (.int p2), .val (.int p3), .val (.int p4), .val (.int nn), .val (.int c0), .val (.int c1), .val (.int c2), .val (.int c3), .val (.ref b2), .unset] [(.int (own_has cs))])) target → Steps p.tables e below (T0.setTop (mkF m 48 #[.val (.int p0), .val (.int p1), .val (.int p2), .val (.int p3), .val (.int p4), .val (.int nn), .val (.int c0), .val (.int c1), .val (.int c2), .val (.int c3), .val (.ref b2), .unset] [])) target := by
  obtain ⟨hw, O_cs, P_cs, O_as, O_hi, O_lo, O_fm, R_fm⟩ := id hG
  have W := @own_W _ _ hw
  have hB := @hb _ _ hby
  refine ⟨T0, _, X0, N0, ?_⟩
  rw [e0]
  refine ⟨(Keep.refl h0 []), fun target kt => ?_⟩
  show Steps _ _ _ (T0.setTop (mkF m 48 #[.val (.int p0), .val (.int p1), .val (.int p2), .val (.int p3), .val (.int p4), .val (.int nn), .val (.int c0), .val (.int c1), .val (.int c2), .val (.int c3), .val (.ref b2), .unset] [])) _
  refine XS.iload X0.here hx rfl (hB at_48) rfl ?_
  refine XS.iconst X0.here hx rfl (hB at_50) ?_
  refine XS.icmpNo X0.here hx rfl (hB at_51) rfl (flt (hc51 : ¬ (nn < (1 : Int32)))).1 ?_
  refine XS.iload X0.here hx rfl (hB at_54) rfl ?_
  refine XS.bipush X0.here hx rfl (hB at_56) ?_
  refine XS.icmpNo X0.here hx rfl (hB at_58) rfl (feq (hc58 : ¬ (c0 = (45 : Int32)))).1 ?_
  refine XS.iload X0.here hx rfl (hB at_61) rfl ?_
  refine XS.iconst X0.here hx rfl (hB at_63) ?_
  refine XS.icmpNo X0.here hx rfl (hB at_64) rfl (flt (hc64 : ¬ (nn < (2 : Int32)))).1 ?_
  refine XS.iload X0.here hx rfl (hB at_67) rfl ?_
  refine XS.bipush X0.here hx rfl (hB at_69) ?_
  refine XS.icmpNo X0.here hx rfl (hB at_71) rfl (feq (hc71 : ¬ (c1 = (45 : Int32)))).1 ?_
  refine XS.iload X0.here hx rfl (hB at_74) rfl ?_
  refine XS.iconst X0.here hx rfl (hB at_76) ?_
  refine XS.icmpNo X0.here hx rfl (hB at_77) rfl (flt (hc77 : ¬ (nn < (3 : Int32)))).1 ?_
  refine XS.iload X0.here hx rfl (hB at_80) rfl ?_
  show Steps _ _ _ (T0.setTop (mkF m 82 #[.val (.int p0), .val (.int p1), .val (.int p2), .val (.int p3), .val (.int p4), .val (.int nn), .val (.int c0), .val (.int c1), .val (.int c2), .val (.int c3), .val (.ref b2), .unset] [.int c2])) _
  refine XS.bipush X0.here hx rfl (hB at_82) ?_
  refine XS.icmpNo X0.here hx rfl (hB at_84) rfl (feq (hc84 : ¬ (c2 = (45 : Int32)))).1 ?_
  refine XS.iload X0.here hx rfl (hB at_87) rfl ?_
  refine XS.iconst X0.here hx rfl (hB at_89) ?_
  refine XS.icmpYes X0.here hx rfl (pc0 := 90) (pc' := 104) rfl (hB at_90) rfl (tlt (hc90 : nn < (4 : Int32))).1 (by decide) (by decide) ?_
  refine XS.iconst X0.here hx rfl (hB at_104) ?_
  rw [hv] at kt
  exact kt
theorem sgexp_m4 {p : Program} {l : Launch} {e : Env} {s : State} {m : MethodId} {args : Array Value} {below : List Frame} {meth : Method} {c : Code} {T0 : State} {locs : List Loc} (Z : State) (a0 : Array Value) (G1 : Int32) (fm : Value) (hG : Glob Z a0 G1 fm) (p0 : Int32) (p1 : Int32) (p2 : Int32) (p3 : Int32) (p4 : Int32) (nn : Int32) (c0 : Int32) (c1 : Int32) (c2 : Int32) (c3 : Int32) (b2 : Addr) (cs : List Int32) (kc : Nat) (ks : Nat) (h0 : Heap) (n0 : Nat) (Z0 : n0 ≤ h0.size) (X00 : Old Z n0 h0) (hfit : own_fit nn cs c0 c1 c2 c3) (hv : own_has cs = (0 : Int32)) (hc51 : ¬ (nn < (1 : Int32))) (hc58 : ¬ (c0 = (45 : Int32))) (hc64 : ¬ (nn < (2 : Int32))) (hc71 : ¬ (c1 = (45 : Int32))) (hc77 : ¬ (nn < (3 : Int32))) (hc84 : ¬ (c2 = (45 : Int32))) (hc90 : ¬ (nn < (4 : Int32))) (hc97 : ¬ (c3 = (45 : Int32))) (X0 : Stand p l e room_1 s m args below meth c T0 locs kc ks) (hx : p.tables.exec = Jvm.exec) (hZ : Z.Warmed39 s.vm) (hby : c.code = code) (hml : c.maxLocals = 12) (hown : s.vm.findClass "com/example/label_lattice/labellattice/RangeIsWrittenAsRangePinLaw" = some m.cls) (e0 : T0.heap = h0) (N0 : Fr n0 locs) :
    ∃ (T' : State) (L' : List Loc), Stand p l e room_1 s m args below meth c T' L' kc ks ∧ Fr n0 L' ∧ Keep h0 T'.heap [] ∧ ∀ target, Steps p.tables e below (T'.setTop (mkF m 105 #[.val (.int p0), .val (.int p1), .val (.int p2), .val (.int p3), .val (.int p4), .val (.int nn), .val (.int c0), .val (.int c1), .val (.int c2), .val (.int c3), .val (.ref b2), .unset] [(.int (own_has cs))])) target → Steps p.tables e below (T0.setTop (mkF m 48 #[.val (.int p0), .val (.int p1), .val (.int p2), .val (.int p3), .val (.int p4), .val (.int nn), .val (.int c0), .val (.int c1), .val (.int c2), .val (.int c3), .val (.ref b2), .unset] [])) target := by
  obtain ⟨hw, O_cs, P_cs, O_as, O_hi, O_lo, O_fm, R_fm⟩ := id hG
  have W := @own_W _ _ hw
  have hB := @hb _ _ hby
  refine ⟨T0, _, X0, N0, ?_⟩
  rw [e0]
  refine ⟨(Keep.refl h0 []), fun target kt => ?_⟩
  show Steps _ _ _ (T0.setTop (mkF m 48 #[.val (.int p0), .val (.int p1), .val (.int p2), .val (.int p3), .val (.int p4), .val (.int nn), .val (.int c0), .val (.int c1), .val (.int c2), .val (.int c3), .val (.ref b2), .unset] [])) _
  refine XS.iload X0.here hx rfl (hB at_48) rfl ?_
  refine XS.iconst X0.here hx rfl (hB at_50) ?_
  refine XS.icmpNo X0.here hx rfl (hB at_51) rfl (flt (hc51 : ¬ (nn < (1 : Int32)))).1 ?_
  refine XS.iload X0.here hx rfl (hB at_54) rfl ?_
  refine XS.bipush X0.here hx rfl (hB at_56) ?_
  refine XS.icmpNo X0.here hx rfl (hB at_58) rfl (feq (hc58 : ¬ (c0 = (45 : Int32)))).1 ?_
  refine XS.iload X0.here hx rfl (hB at_61) rfl ?_
  refine XS.iconst X0.here hx rfl (hB at_63) ?_
  refine XS.icmpNo X0.here hx rfl (hB at_64) rfl (flt (hc64 : ¬ (nn < (2 : Int32)))).1 ?_
  refine XS.iload X0.here hx rfl (hB at_67) rfl ?_
  refine XS.bipush X0.here hx rfl (hB at_69) ?_
  refine XS.icmpNo X0.here hx rfl (hB at_71) rfl (feq (hc71 : ¬ (c1 = (45 : Int32)))).1 ?_
  refine XS.iload X0.here hx rfl (hB at_74) rfl ?_
  refine XS.iconst X0.here hx rfl (hB at_76) ?_
  refine XS.icmpNo X0.here hx rfl (hB at_77) rfl (flt (hc77 : ¬ (nn < (3 : Int32)))).1 ?_
  refine XS.iload X0.here hx rfl (hB at_80) rfl ?_
  show Steps _ _ _ (T0.setTop (mkF m 82 #[.val (.int p0), .val (.int p1), .val (.int p2), .val (.int p3), .val (.int p4), .val (.int nn), .val (.int c0), .val (.int c1), .val (.int c2), .val (.int c3), .val (.ref b2), .unset] [.int c2])) _
  refine XS.bipush X0.here hx rfl (hB at_82) ?_
  refine XS.icmpNo X0.here hx rfl (hB at_84) rfl (feq (hc84 : ¬ (c2 = (45 : Int32)))).1 ?_
  refine XS.iload X0.here hx rfl (hB at_87) rfl ?_
  refine XS.iconst X0.here hx rfl (hB at_89) ?_
  refine XS.icmpNo X0.here hx rfl (hB at_90) rfl (flt (hc90 : ¬ (nn < (4 : Int32)))).1 ?_
  refine XS.iload X0.here hx rfl (hB at_93) rfl ?_
  refine XS.bipush X0.here hx rfl (hB at_95) ?_
  refine XS.icmpYes X0.here hx rfl (pc0 := 97) (pc' := 104) rfl (hB at_97) rfl (feq (hc97 : ¬ (c3 = (45 : Int32)))).2 (by decide) (by decide) ?_
  refine XS.iconst X0.here hx rfl (hB at_104) ?_
  rw [hv] at kt
  exact kt
theorem sgexp {p : Program} {l : Launch} {e : Env} {s : State} {m : MethodId} {args : Array Value} {below : List Frame} {meth : Method} {c : Code} {T0 : State} {locs : List Loc} (Z : State) (a0 : Array Value) (G1 : Int32) (fm : Value) (hG : Glob Z a0 G1 fm) (p0 : Int32) (p1 : Int32) (p2 : Int32) (p3 : Int32) (p4 : Int32) (nn : Int32) (c0 : Int32) (c1 : Int32) (c2 : Int32) (c3 : Int32) (b2 : Addr) (cs : List Int32) (kc : Nat) (ks : Nat) (h0 : Heap) (n0 : Nat) (Z0 : n0 ≤ h0.size) (X00 : Old Z n0 h0) (hfit : own_fit nn cs c0 c1 c2 c3) (X0 : Stand p l e room_1 s m args below meth c T0 locs kc ks) (hx : p.tables.exec = Jvm.exec) (hZ : Z.Warmed39 s.vm) (hby : c.code = code) (hml : c.maxLocals = 12) (hown : s.vm.findClass "com/example/label_lattice/labellattice/RangeIsWrittenAsRangePinLaw" = some m.cls) (e0 : T0.heap = h0) (N0 : Fr n0 locs) :
    ∃ (T' : State) (L' : List Loc), Stand p l e room_1 s m args below meth c T' L' kc ks ∧ Fr n0 L' ∧ Keep h0 T'.heap [] ∧ ∀ target, Steps p.tables e below (T'.setTop (mkF m 105 #[.val (.int p0), .val (.int p1), .val (.int p2), .val (.int p3), .val (.int p4), .val (.int nn), .val (.int c0), .val (.int c1), .val (.int c2), .val (.int c3), .val (.ref b2), .unset] [(.int (own_has cs))])) target → Steps p.tables e below (T0.setTop (mkF m 48 #[.val (.int p0), .val (.int p1), .val (.int p2), .val (.int p3), .val (.int p4), .val (.int nn), .val (.int c0), .val (.int c1), .val (.int c2), .val (.int c3), .val (.ref b2), .unset] [])) target := by
  have hfit' := hfit
  rcases hfit' with ⟨rfl, rfl⟩ | ⟨rfl, rfl⟩ | ⟨rfl, rfl⟩ | ⟨rfl, rfl⟩ | ⟨rfl, rfl⟩
  · exact sgexp_m0 Z a0 G1 fm hG p0 p1 p2 p3 p4 (0) c0 c1 c2 c3 b2 [] kc ks h0 n0 Z0 X00 hfit rfl (by decide) (by decide) (by decide) (by decide) X0 hx hZ hby hml hown e0 N0
  · by_cases q0 : c0 = (45 : Int32)
    · exact sgexp_h0 Z a0 G1 fm hG p0 p1 p2 p3 p4 (1) c0 c1 c2 c3 b2 [c0] kc ks h0 n0 Z0 X00 hfit (own_h1 q0) (by decide) q0 X0 hx hZ hby hml hown e0 N0
    exact sgexp_m1 Z a0 G1 fm hG p0 p1 p2 p3 p4 (1) c0 c1 c2 c3 b2 [c0] kc ks h0 n0 Z0 X00 hfit (own_h0 q0) (by decide) q0 (by decide) (by decide) (by decide) X0 hx hZ hby hml hown e0 N0
  · by_cases q0 : c0 = (45 : Int32)
    · exact sgexp_h0 Z a0 G1 fm hG p0 p1 p2 p3 p4 (2) c0 c1 c2 c3 b2 [c0, c1] kc ks h0 n0 Z0 X00 hfit (own_h1 q0) (by decide) q0 X0 hx hZ hby hml hown e0 N0
    by_cases q1 : c1 = (45 : Int32)
    · exact sgexp_h1 Z a0 G1 fm hG p0 p1 p2 p3 p4 (2) c0 c1 c2 c3 b2 [c0, c1] kc ks h0 n0 Z0 X00 hfit ((own_h0 q0).trans (own_h1 q1)) (by decide) q0 (by decide) q1 X0 hx hZ hby hml hown e0 N0
    exact sgexp_m2 Z a0 G1 fm hG p0 p1 p2 p3 p4 (2) c0 c1 c2 c3 b2 [c0, c1] kc ks h0 n0 Z0 X00 hfit ((own_h0 q0).trans (own_h0 q1)) (by decide) q0 (by decide) q1 (by decide) (by decide) X0 hx hZ hby hml hown e0 N0
  · by_cases q0 : c0 = (45 : Int32)
    · exact sgexp_h0 Z a0 G1 fm hG p0 p1 p2 p3 p4 (3) c0 c1 c2 c3 b2 [c0, c1, c2] kc ks h0 n0 Z0 X00 hfit (own_h1 q0) (by decide) q0 X0 hx hZ hby hml hown e0 N0
    by_cases q1 : c1 = (45 : Int32)
    · exact sgexp_h1 Z a0 G1 fm hG p0 p1 p2 p3 p4 (3) c0 c1 c2 c3 b2 [c0, c1, c2] kc ks h0 n0 Z0 X00 hfit ((own_h0 q0).trans (own_h1 q1)) (by decide) q0 (by decide) q1 X0 hx hZ hby hml hown e0 N0
    by_cases q2 : c2 = (45 : Int32)
    · exact sgexp_h2 Z a0 G1 fm hG p0 p1 p2 p3 p4 (3) c0 c1 c2 c3 b2 [c0, c1, c2] kc ks h0 n0 Z0 X00 hfit ((own_h0 q0).trans ((own_h0 q1).trans (own_h1 q2))) (by decide) q0 (by decide) q1 (by decide) q2 X0 hx hZ hby hml hown e0 N0
    exact sgexp_m3 Z a0 G1 fm hG p0 p1 p2 p3 p4 (3) c0 c1 c2 c3 b2 [c0, c1, c2] kc ks h0 n0 Z0 X00 hfit ((own_h0 q0).trans ((own_h0 q1).trans (own_h0 q2))) (by decide) q0 (by decide) q1 (by decide) q2 (by decide) X0 hx hZ hby hml hown e0 N0
  · by_cases q0 : c0 = (45 : Int32)
    · exact sgexp_h0 Z a0 G1 fm hG p0 p1 p2 p3 p4 (4) c0 c1 c2 c3 b2 [c0, c1, c2, c3] kc ks h0 n0 Z0 X00 hfit (own_h1 q0) (by decide) q0 X0 hx hZ hby hml hown e0 N0
    by_cases q1 : c1 = (45 : Int32)
    · exact sgexp_h1 Z a0 G1 fm hG p0 p1 p2 p3 p4 (4) c0 c1 c2 c3 b2 [c0, c1, c2, c3] kc ks h0 n0 Z0 X00 hfit ((own_h0 q0).trans (own_h1 q1)) (by decide) q0 (by decide) q1 X0 hx hZ hby hml hown e0 N0
    by_cases q2 : c2 = (45 : Int32)
    · exact sgexp_h2 Z a0 G1 fm hG p0 p1 p2 p3 p4 (4) c0 c1 c2 c3 b2 [c0, c1, c2, c3] kc ks h0 n0 Z0 X00 hfit ((own_h0 q0).trans ((own_h0 q1).trans (own_h1 q2))) (by decide) q0 (by decide) q1 (by decide) q2 X0 hx hZ hby hml hown e0 N0
    by_cases q3 : c3 = (45 : Int32)
    · exact sgexp_h3 Z a0 G1 fm hG p0 p1 p2 p3 p4 (4) c0 c1 c2 c3 b2 [c0, c1, c2, c3] kc ks h0 n0 Z0 X00 hfit ((own_h0 q0).trans ((own_h0 q1).trans ((own_h0 q2).trans (own_h1 q3)))) (by decide) q0 (by decide) q1 (by decide) q2 (by decide) q3 X0 hx hZ hby hml hown e0 N0
    exact sgexp_m4 Z a0 G1 fm hG p0 p1 p2 p3 p4 (4) c0 c1 c2 c3 b2 [c0, c1, c2, c3] kc ks h0 n0 Z0 X00 hfit ((own_h0 q0).trans ((own_h0 q1).trans ((own_h0 q2).trans (own_h0 q3)))) (by decide) q0 (by decide) q1 (by decide) q2 (by decide) q3 X0 hx hZ hby hml hown e0 N0
theorem pd__I_C : parseMethodDescriptor "(I)C" = some ⟨[.int], some .char⟩ := by decide +kernel
theorem pd__ICCCC_Ljava_lang_String_ : parseMethodDescriptor "(ICCCC)Ljava/lang/String;" = some ⟨[.int, .char, .char, .char, .char], some (.object "java/lang/String")⟩ := by decide +kernel
theorem pd__Ljava_lang_String__Z : parseMethodDescriptor "(Ljava/lang/String;)Z" = some ⟨[(.object "java/lang/String")], some .boolean⟩ := by decide +kernel
def Q0 (Z : State) (G1 : Int32) (fm : Value) (p0 : Int32) (p1 : Int32) (p2 : Int32) (p3 : Int32) (p4 : Int32) (h0 : Heap) (n0 : Nat) (v : Option Value) (h : Heap) (L : List Loc) : Prop := v = some (.int 1) ∧ Fr n0 L ∧ Keep h0 h []
theorem ef_code_IIIII (m : MethodId) (x0 : Int32) (x1 : Int32) (x2 : Int32) (x3 : Int32) (x4 : Int32) : entryFrame m #[.int x0, .int x1, .int x2, .int x3, .int x4] maxLocals = mkF m 0 #[.val (.int x0), .val (.int x1), .val (.int x2), .val (.int x3), .val (.int x4), .unset, .unset, .unset, .unset, .unset, .unset, .unset] [] := by first | (simp [entryFrame, mkF, argsToLocals, Value.category, maxLocals]; done) | rfl
theorem rm0_0 (l : Launch) (Z : State) (a0 : Array Value) (G1 : Int32) (fm : Value) (hG : Glob Z a0 G1 fm) (ws : List Jvm.Cond) (p0 : Int32) (p1 : Int32) (p2 : Int32) (p3 : Int32) (p4 : Int32) (h0 : Heap) (n0 : Nat) (Z0 : n0 ≤ h0.size) (X00 : Old Z n0 h0) (hn : ((p0 &&& (2147483647 : Int32)) % (5 : Int32)) = (0 : Int32)) :
    MetFree l x (head1 (Jvm.Cond.code x code maxLocals ret :: ws) room_1) (fun a U => a = #[.int p0, .int p1, .int p2, .int p3, .int p4] ∧ Z.Warmed39 U.vm ∧ U.heap = h0 ∧ CHv Z own_EL U.vm h0) (fun _ _ _ _ _ => True) (fun _ U o U' => ∃ v L, o = .returned v ∧ Q0 Z G1 fm p0 p1 p2 p3 p4 h0 n0 v U'.heap L ∧ CHr Z own_EL U.vm U.heap U'.vm U'.heap ∧ ReturnedEndW U o U' L room_1.cells room_1.slots) := by
  obtain ⟨hw, O_cs, P_cs, O_as, O_hi, O_lo, O_fm, R_fm⟩ := id hG
  have W := @own_W _ _ hw
  refine MetFree.of_bodySF (plainFor_of_name pn_com_example_label_lattice_labellattice_RangeIsWrittenAsRangePinLaw) hisR ?_
  intro p e s m args below meth c s₁ Bd hml0 hP hK
  obtain ⟨rfl, hZ, hh, hCH⟩ := hP
  have hx := Bd.exec
  have hby := Bd.bytes
  have hB := @hb _ _ hby
  have hml : c.maxLocals = 12 := hml0
  have hown : s.vm.findClass "com/example/label_lattice/labellattice/RangeIsWrittenAsRangePinLaw" = some m.cls := findClass_of_methodNamed Bd.named
  have hnm := (name_of_methodNamed Bd.named Bd.method).1
  have X0 : Stand p l e room_1 (s.setVm s.vm) m #[.int p0, .int p1, .int p2, .int p3, .int p4] below meth c s₁ [] 0 0 := Stand.of_body Bd
  have e0 : s₁.heap = h0 := by rw [← hh, Bd.state]; rfl
  have hS0 : s.Since s.vm h0.size := (State.WarmedH.refl s).since _
  have hk0 : h0.size ≤ h0.size := Nat.le_refl _
  have R0 : CHr Z own_EL s.vm h0 s.vm h0 := CHr.refl hCH
  have hEL := own_ew hw
  have N0 := Fr.nil n0
  have pre0 : ∀ t, Steps p.tables e below (s₁.setTop (mkF m 0 #[.val (.int p0), .val (.int p1), .val (.int p2), .val (.int p3), .val (.int p4), .unset, .unset, .unset, .unset, .unset, .unset, .unset] [])) t → Steps p.tables e below (s₁.setTop (entryFrame m #[.int p0, .int p1, .int p2, .int p3, .int p4] maxLocals)) t := fun t kk_ => castTop (ef_code_IIIII m p0 p1 p2 p3 p4) kk_
  -- pc 9: com/example/label_lattice/labellattice/RangeIsWrittenAsRangePinLaw.ch
  obtain ⟨_, _, ⟨T576, L576, k576, n576⟩, -, X576, ⟨Lc576, hQ576, l576, y576, z576⟩, st576⟩ := Jvm.LawKit.callS X0 hx (y := y28) hown (mvT hZ (W 1 rfl)) (mvT hZ (W 2 rfl)) (mvT hZ (W 3 rfl)) (mvT hZ (W 4 rfl)) (by decide) (backOf (W := 0) (rmch l Z a0 G1 fm hG [] p1 h0 n0 Z0 X00) hZ (W 4 rfl) (W 3 rfl) (by decide) (by decide)) (g := (mkF m 9 #[.val (.int p0), .val (.int p1), .val (.int p2), .val (.int p3), .val (.int p4), .val (.int 0), .unset, .unset, .unset, .unset, .unset, .unset] [.int p1])) rfl (by rw [hml]; rfl) (argsL := [.int p1]) (rest := []) (lenOf pd__I_C rfl) rfl (by show 2 * 0 + _ ≤ _; exact Nat.le_of_eq rfl) (hB at_9) (fun _ _ => ⟨rfl, e0, (by decide : 0 + 0 ≤ _), (by decide : 0 + 0 ≤ _)⟩)
  dsimp only [Pt.U, Pt.locs, Pt.cells, Pt.slots] at X576 l576 y576 z576 st576 hQ576
  subst l576 y576 z576
  obtain ⟨r_576, rfl, N576q, eq576, f576_0⟩ := hQ576
  have N576 := Fr.app N0 N576q
  -- pc 15: com/example/label_lattice/labellattice/RangeIsWrittenAsRangePinLaw.ch
  obtain ⟨_, _, ⟨T577, L577, k577, n577⟩, -, X577, ⟨Lc577, hQ577, l577, y577, z577⟩, st577⟩ := Jvm.LawKit.callS X576 hx (y := y28) hown (mvT hZ (W 1 rfl)) (mvT hZ (W 2 rfl)) (mvT hZ (W 3 rfl)) (mvT hZ (W 4 rfl)) (by decide) (backOf (W := 0) (rmch l Z a0 G1 fm hG [] p2 h0 n0 Z0 X00) hZ (W 4 rfl) (W 3 rfl) (by decide) (by decide)) (g := (mkF m 15 #[.val (.int p0), .val (.int p1), .val (.int p2), .val (.int p3), .val (.int p4), .val (.int 0), .val (.int r_576), .unset, .unset, .unset, .unset, .unset] [.int p2])) rfl (by rw [hml]; rfl) (argsL := [.int p2]) (rest := []) (lenOf pd__I_C rfl) rfl (by show 2 * 0 + _ ≤ _; exact Nat.le_of_eq rfl) (hB at_15) (fun _ _ => ⟨rfl, eq576, (by decide : 0 + 0 ≤ _), (by decide : 0 + 0 ≤ _)⟩)
  dsimp only [Pt.U, Pt.locs, Pt.cells, Pt.slots] at X577 l577 y577 z577 st577 hQ577
  subst l577 y577 z577
  obtain ⟨r_577, rfl, N577q, eq577, f577_0⟩ := hQ577
  have N577 := Fr.app N576 N577q
  -- pc 21: com/example/label_lattice/labellattice/RangeIsWrittenAsRangePinLaw.ch
  obtain ⟨_, _, ⟨T578, L578, k578, n578⟩, -, X578, ⟨Lc578, hQ578, l578, y578, z578⟩, st578⟩ := Jvm.LawKit.callS X577 hx (y := y28) hown (mvT hZ (W 1 rfl)) (mvT hZ (W 2 rfl)) (mvT hZ (W 3 rfl)) (mvT hZ (W 4 rfl)) (by decide) (backOf (W := 0) (rmch l Z a0 G1 fm hG [] p3 h0 n0 Z0 X00) hZ (W 4 rfl) (W 3 rfl) (by decide) (by decide)) (g := (mkF m 21 #[.val (.int p0), .val (.int p1), .val (.int p2), .val (.int p3), .val (.int p4), .val (.int 0), .val (.int r_576), .val (.int r_577), .unset, .unset, .unset, .unset] [.int p3])) rfl (by rw [hml]; rfl) (argsL := [.int p3]) (rest := []) (lenOf pd__I_C rfl) rfl (by show 2 * 0 + _ ≤ _; exact Nat.le_of_eq rfl) (hB at_21) (fun _ _ => ⟨rfl, eq577, (by decide : 0 + 0 ≤ _), (by decide : 0 + 0 ≤ _)⟩)
  dsimp only [Pt.U, Pt.locs, Pt.cells, Pt.slots] at X578 l578 y578 z578 st578 hQ578
  subst l578 y578 z578
  obtain ⟨r_578, rfl, N578q, eq578, f578_0⟩ := hQ578
  have N578 := Fr.app N577 N578q
  -- pc 28: com/example/label_lattice/labellattice/RangeIsWrittenAsRangePinLaw.ch
  obtain ⟨_, _, ⟨T579, L579, k579, n579⟩, -, X579, ⟨Lc579, hQ579, l579, y579, z579⟩, st579⟩ := Jvm.LawKit.callS X578 hx (y := y28) hown (mvT hZ (W 1 rfl)) (mvT hZ (W 2 rfl)) (mvT hZ (W 3 rfl)) (mvT hZ (W 4 rfl)) (by decide) (backOf (W := 0) (rmch l Z a0 G1 fm hG [] p4 h0 n0 Z0 X00) hZ (W 4 rfl) (W 3 rfl) (by decide) (by decide)) (g := (mkF m 28 #[.val (.int p0), .val (.int p1), .val (.int p2), .val (.int p3), .val (.int p4), .val (.int 0), .val (.int r_576), .val (.int r_577), .val (.int r_578), .unset, .unset, .unset] [.int p4])) rfl (by rw [hml]; rfl) (argsL := [.int p4]) (rest := []) (lenOf pd__I_C rfl) rfl (by show 2 * 0 + _ ≤ _; exact Nat.le_of_eq rfl) (hB at_28) (fun _ _ => ⟨rfl, eq578, (by decide : 0 + 0 ≤ _), (by decide : 0 + 0 ≤ _)⟩)
  dsimp only [Pt.U, Pt.locs, Pt.cells, Pt.slots] at X579 l579 y579 z579 st579 hQ579
  subst l579 y579 z579
  obtain ⟨r_579, rfl, N579q, eq579, f579_0⟩ := hQ579
  have N579 := Fr.app N578 N579q
  -- pc 43: com/example/label_lattice/labellattice/RangeIsWrittenAsRangePinLaw.make
  obtain ⟨_, _, ⟨T580, L580, k580, n580⟩, -, X580, hS580, hG580, ⟨Lc580, hQ580, l580, y580, z580, hC580⟩, st580⟩ := callSS X579 hx (y := y29) hown (mvT hZ (W 5 rfl)) (mvT hZ (W 6 rfl)) (mvT hZ (W 3 rfl)) (mvT hZ (W 7 rfl)) (by decide) (backOfSH (s := s) (W := 0) (rmmk0 l Z a0 G1 fm hG [] r_576 r_577 r_578 r_579 h0 n0 Z0 X00 f576_0 f577_0 f578_0 f579_0) hZ (W 7 rfl) (W 3 rfl) (by decide) (by decide) hEL R0.1) (g := (mkF m 43 #[.val (.int p0), .val (.int p1), .val (.int p2), .val (.int p3), .val (.int p4), .val (.int 0), .val (.int r_576), .val (.int r_577), .val (.int r_578), .val (.int r_579), .unset, .unset] [.int r_579, .int r_578, .int r_577, .int r_576, .int 0])) rfl (by rw [hml]; rfl) (argsL := [.int 0, .int r_576, .int r_577, .int r_578, .int r_579]) (rest := []) (lenOf pd__ICCCC_Ljava_lang_String_ rfl) rfl (by show 2 * 0 + _ ≤ _; exact Nat.le_of_eq rfl) (hB at_43) (fun _ _ => ⟨rfl, eq579, (by decide : 0 + 6 ≤ _), (by decide : 0 + 12 ≤ _)⟩)
  dsimp only [Pt.U, Pt.locs, Pt.cells, Pt.slots] at X580 l580 y580 z580 st580 hQ580 hS580 hG580 hC580
  subst l580 y580 z580
  have hZ580 : Z.Warmed39 T580.vm := State.Warmed39.trans (t := s.setVm s.vm) hZ hS580.1
  have hw580 : T580.vm.findClass "com/example/label_lattice/labellattice/RangeIsWrittenAsRangePinLaw" = some m.cls := by rw [hS580.1.alike.findClass]; exact hown
  have hSn580 : s.Since T580.vm T580.heap.size := hS0.trans hS580 (Nat.le_trans hk0 (by have q := hG580; rw [eq579] at q; exact q))
  have X580 : Stand p l e _ (s.setVm T580.vm) m _ below meth c T580 _ _ _ := X580
  obtain ⟨b_580, t_580, kb_580, cd_580, z_580, vs_580, rfl, N580q, K580, f580_0, f580_1, f580_2, f580_3, f580_4, f580_5⟩ := hQ580
  have N580 := Fr.app N579 N580q
  have Z581 : n0 ≤ T580.heap.size := Nat.le_trans Z0 K580.1
  have K0_581 : Keep h0 T580.heap [] := (Keep.refl h0 []).trans K580 all0
  have O581 : Old Z n0 T580.heap := X00.keep K580 all0
  have hkw580 : T580.heap.size ≤ T580.heap.size := Nat.le_refl _
  have Rb580 : CHr Z own_EL s.vm h0 T580.vm T580.heap := R0.trans hC580
  have lo_b_580 : h0.size ≤ b_580 := f580_0
  have g_b_580 : n0 ≤ b_580 := Nat.le_trans Z0 lo_b_580
  have l0_b_580 : h0.size ≤ b_580 := Nat.le_trans (Keep.refl h0 []).1 lo_b_580
  obtain ⟨T582, L582, X582, N582, K582, st582⟩ := sgexp Z a0 G1 fm hG p0 p1 p2 p3 p4 (0 : Int32) r_576 r_577 r_578 r_579 b_580 ([] : List Int32) 6 12 T580.heap n0 Z581 O581 (Or.inl ⟨rfl, rfl⟩) X580 hx hZ580 hby hml hw580 rfl N580
  have Z583 : n0 ≤ T582.heap.size := Nat.le_trans Z581 K582.1
  have K0_583 : Keep h0 T582.heap [] := K0_581.trans K582 all0
  have O583 : Old Z n0 T582.heap := O581.keep K582 all0
  have R583 : CHr Z own_EL s.vm h0 T580.vm T582.heap := Rb580.trans (CHr.keep K582 sf0 Rb580.1)
  have hk583 : T580.heap.size ≤ T582.heap.size := Nat.le_trans hkw580 K582.1
  have f585 := (f580_1.keep K582)
  have f586 := (f580_2.keep K582 nin0)
  have f587 := (f580_3.keep K582 nin0)
  have f588 := (f580_4.keep K582 nin0)
  -- pc 109: com/example/label_lattice/labellattice/Range.isWrittenAsRange
  obtain ⟨_, _, ⟨T584, L584, k584, n584⟩, -, X584, ⟨Lc584, hQ584, l584, y584, z584⟩, st584⟩ := Jvm.LawKit.callS X582 hx (y := y27) hw580 (mvT hZ580 (W 30 rfl)) (mvT hZ580 (W 31 rfl)) (mvT hZ580 (W 32 rfl)) (mvT hZ580 (W 33 rfl)) (by decide) (backOf (W := 0) (rmiw l Z a0 G1 fm hG [] b_580 t_580 kb_580 cd_580 z_580 vs_580 ([] : List Int32) (0 : Int32) T582.heap n0 Z583 O583 f585 f586 f587 f588 f580_5 (own_ble rfl) nofun rfl) hZ580 (W 33 rfl) (W 32 rfl) (by decide) (by decide)) (g := (mkF m 109 #[.val (.int p0), .val (.int p1), .val (.int p2), .val (.int p3), .val (.int p4), .val (.int 0), .val (.int r_576), .val (.int r_577), .val (.int r_578), .val (.int r_579), .val (.ref b_580), .val (.int (own_has ([] : List Int32)))] [.ref b_580])) rfl (by rw [hml]; rfl) (argsL := [.ref b_580]) (rest := []) (lenOf pd__Ljava_lang_String__Z rfl) rfl (by show 2 * 0 + _ ≤ _; exact Nat.le_of_eq rfl) (hB at_109) (fun _ _ => ⟨rfl, rfl, (by decide : 6 + 0 ≤ _), (by decide : 12 + 0 ≤ _)⟩)
  dsimp only [Pt.U, Pt.locs, Pt.cells, Pt.slots] at X584 l584 y584 z584 st584 hQ584
  subst l584 y584 z584
  obtain ⟨rfl, N584q, eq584⟩ := hQ584
  have N584 := Fr.app N582 N584q
  obtain ⟨fs, hr, hrun, hended, hend⟩ := Jvm.Stand.leaveW (v := some (.int 1)) X584 hSn580 (by rw [eq584]; exact hk583) (fun h => by rw [Bd.returns] at h; cases h)
  have hFin := R583.trans (CHv.at X584 hZ580 hEL R583.1)
  refine ⟨_, _, pre0 _ ?_, hrun, hended, _, _, rfl, ?_, ?_, own_mono hend (own_ble rfl) (own_ble rfl)⟩
  · show Steps _ _ _ (s₁.setTop (mkF m 0 #[.val (.int p0), .val (.int p1), .val (.int p2), .val (.int p3), .val (.int p4), .unset, .unset, .unset, .unset, .unset, .unset, .unset] [])) _
    refine XS.iloadN X0.here hx rfl (hB at_0) rfl ?_
    refine X0.ldcInt hx hown (mvT hZ (W 0 rfl)) (g := (mkF m 1 #[.val (.int p0), .val (.int p1), .val (.int p2), .val (.int p3), .val (.int p4), .unset, .unset, .unset, .unset, .unset, .unset, .unset] [.int p0])) rfl (hB at_1) _ ?_
    refine XS.iand X0.here hx rfl (hB at_3) rfl ?_
    refine XS.iconst X0.here hx rfl (hB at_4) ?_
    refine iremM (g := (mkF m 5 #[.val (.int p0), .val (.int p1), .val (.int p2), .val (.int p3), .val (.int p4), .unset, .unset, .unset, .unset, .unset, .unset, .unset] [.int 5, (.int (p0 &&& (2147483647 : Int32)))])) X0 hx rfl (hB at_5) rfl (by decide) ?_
    show Steps _ _ _ (s₁.setTop (mkF m 6 #[.val (.int p0), .val (.int p1), .val (.int p2), .val (.int p3), .val (.int p4), .unset, .unset, .unset, .unset, .unset, .unset, .unset] [(.int ((p0 &&& (2147483647 : Int32)) % (5 : Int32)))])) _
    rw [hn]
    show Steps _ _ _ (s₁.setTop (mkF m 6 #[.val (.int p0), .val (.int p1), .val (.int p2), .val (.int p3), .val (.int p4), .unset, .unset, .unset, .unset, .unset, .unset, .unset] [.int 0])) _
    refine XS.istore X0.here hx rfl (hB at_6) rfl (l' := #[.val (.int p0), .val (.int p1), .val (.int p2), .val (.int p3), .val (.int p4), .val (.int 0), .unset, .unset, .unset, .unset, .unset, .unset]) rfl ?_
    refine XS.iloadN X0.here hx rfl (hB at_8) rfl ?_
    refine st576 _ ?_
    show Steps _ _ _ (T576.setTop (mkF m 12 #[.val (.int p0), .val (.int p1), .val (.int p2), .val (.int p3), .val (.int p4), .val (.int 0), .unset, .unset, .unset, .unset, .unset, .unset] [.int r_576])) _
    refine XS.istore X576.here hx rfl (hB at_12) rfl (l' := #[.val (.int p0), .val (.int p1), .val (.int p2), .val (.int p3), .val (.int p4), .val (.int 0), .val (.int r_576), .unset, .unset, .unset, .unset, .unset]) rfl ?_
    refine XS.iloadN X576.here hx rfl (hB at_14) rfl ?_
    refine st577 _ ?_
    show Steps _ _ _ (T577.setTop (mkF m 18 #[.val (.int p0), .val (.int p1), .val (.int p2), .val (.int p3), .val (.int p4), .val (.int 0), .val (.int r_576), .unset, .unset, .unset, .unset, .unset] [.int r_577])) _
    refine XS.istore X577.here hx rfl (hB at_18) rfl (l' := #[.val (.int p0), .val (.int p1), .val (.int p2), .val (.int p3), .val (.int p4), .val (.int 0), .val (.int r_576), .val (.int r_577), .unset, .unset, .unset, .unset]) rfl ?_
    refine XS.iloadN X577.here hx rfl (hB at_20) rfl ?_
    refine st578 _ ?_
    show Steps _ _ _ (T578.setTop (mkF m 24 #[.val (.int p0), .val (.int p1), .val (.int p2), .val (.int p3), .val (.int p4), .val (.int 0), .val (.int r_576), .val (.int r_577), .unset, .unset, .unset, .unset] [.int r_578])) _
    refine XS.istore X578.here hx rfl (hB at_24) rfl (l' := #[.val (.int p0), .val (.int p1), .val (.int p2), .val (.int p3), .val (.int p4), .val (.int 0), .val (.int r_576), .val (.int r_577), .val (.int r_578), .unset, .unset, .unset]) rfl ?_
    refine XS.iload X578.here hx rfl (hB at_26) rfl ?_
    refine st579 _ ?_
    show Steps _ _ _ (T579.setTop (mkF m 31 #[.val (.int p0), .val (.int p1), .val (.int p2), .val (.int p3), .val (.int p4), .val (.int 0), .val (.int r_576), .val (.int r_577), .val (.int r_578), .unset, .unset, .unset] [.int r_579])) _
    refine XS.istore X579.here hx rfl (hB at_31) rfl (l' := #[.val (.int p0), .val (.int p1), .val (.int p2), .val (.int p3), .val (.int p4), .val (.int 0), .val (.int r_576), .val (.int r_577), .val (.int r_578), .val (.int r_579), .unset, .unset]) rfl ?_
    refine XS.iload X579.here hx rfl (hB at_33) rfl ?_
    refine XS.iload X579.here hx rfl (hB at_35) rfl ?_
    refine XS.iload X579.here hx rfl (hB at_37) rfl ?_
    refine XS.iload X579.here hx rfl (hB at_39) rfl ?_
    refine XS.iload X579.here hx rfl (hB at_41) rfl ?_
    refine st580.trans ?_
    show Steps _ _ _ (T580.setTop (mkF m 46 #[.val (.int p0), .val (.int p1), .val (.int p2), .val (.int p3), .val (.int p4), .val (.int 0), .val (.int r_576), .val (.int r_577), .val (.int r_578), .val (.int r_579), .unset, .unset] [.ref b_580])) _
    refine XS.astore X580.here hx rfl (hB at_46) rfl rfl (l' := #[.val (.int p0), .val (.int p1), .val (.int p2), .val (.int p3), .val (.int p4), .val (.int 0), .val (.int r_576), .val (.int r_577), .val (.int r_578), .val (.int r_579), .val (.ref b_580), .unset]) rfl ?_
    show Steps _ _ _ (T580.setTop (mkF m 48 #[.val (.int p0), .val (.int p1), .val (.int p2), .val (.int p3), .val (.int p4), .val (.int 0), .val (.int r_576), .val (.int r_577), .val (.int r_578), .val (.int r_579), .val (.ref b_580), .unset] [])) _
    refine st582 _ ?_
    show Steps _ _ _ (T582.setTop (mkF m 105 #[.val (.int p0), .val (.int p1), .val (.int p2), .val (.int p3), .val (.int p4), .val (.int 0), .val (.int r_576), .val (.int r_577), .val (.int r_578), .val (.int r_579), .val (.ref b_580), .unset] [(.int (own_has ([] : List Int32)))])) _
    refine XS.istore X582.here hx rfl (hB at_105) rfl (l' := #[.val (.int p0), .val (.int p1), .val (.int p2), .val (.int p3), .val (.int p4), .val (.int 0), .val (.int r_576), .val (.int r_577), .val (.int r_578), .val (.int r_579), .val (.ref b_580), .val (.int (own_has ([] : List Int32)))]) rfl ?_
    refine XS.aload X582.here hx rfl (hB at_107) rfl rfl ?_
    refine st584 _ ?_
    show Steps _ _ _ (T584.setTop (mkF m 112 #[.val (.int p0), .val (.int p1), .val (.int p2), .val (.int p3), .val (.int p4), .val (.int 0), .val (.int r_576), .val (.int r_577), .val (.int r_578), .val (.int r_579), .val (.ref b_580), .val (.int (own_has ([] : List Int32)))] [(.int (own_has ([] : List Int32)))])) _
    refine XS.iload X584.here hx rfl (hB at_112) rfl ?_
    refine XS.icmpNo X584.here hx rfl (hB at_114) rfl (teq (rfl : (own_has ([] : List Int32)) = (own_has ([] : List Int32)))).2 ?_
    refine XS.iconst X584.here hx rfl (hB at_117) ?_
    refine XS.goto X584.here hx rfl (pc0 := 118) (pc' := 122) rfl (hB at_118) (by decide) (by decide) ?_
    exact retN X584 hx (t := .boolean) Bd.returns (by simp) (hB at_122) hr
  · show Q0 Z G1 fm p0 p1 p2 p3 p4 h0 n0 _ T584.heap _
    rw [eq584]
    exact ⟨rfl, N584, K0_583⟩
  · show CHr Z own_EL s.vm s.heap T584.vm T584.heap
    rw [hh, eq584]
    exact hFin
theorem rm0_1 (l : Launch) (Z : State) (a0 : Array Value) (G1 : Int32) (fm : Value) (hG : Glob Z a0 G1 fm) (ws : List Jvm.Cond) (p0 : Int32) (p1 : Int32) (p2 : Int32) (p3 : Int32) (p4 : Int32) (h0 : Heap) (n0 : Nat) (Z0 : n0 ≤ h0.size) (X00 : Old Z n0 h0) (hn : ((p0 &&& (2147483647 : Int32)) % (5 : Int32)) = (1 : Int32)) :
    MetFree l x (head1 (Jvm.Cond.code x code maxLocals ret :: ws) room_1) (fun a U => a = #[.int p0, .int p1, .int p2, .int p3, .int p4] ∧ Z.Warmed39 U.vm ∧ U.heap = h0 ∧ CHv Z own_EL U.vm h0) (fun _ _ _ _ _ => True) (fun _ U o U' => ∃ v L, o = .returned v ∧ Q0 Z G1 fm p0 p1 p2 p3 p4 h0 n0 v U'.heap L ∧ CHr Z own_EL U.vm U.heap U'.vm U'.heap ∧ ReturnedEndW U o U' L room_1.cells room_1.slots) := by
  obtain ⟨hw, O_cs, P_cs, O_as, O_hi, O_lo, O_fm, R_fm⟩ := id hG
  have W := @own_W _ _ hw
  refine MetFree.of_bodySF (plainFor_of_name pn_com_example_label_lattice_labellattice_RangeIsWrittenAsRangePinLaw) hisR ?_
  intro p e s m args below meth c s₁ Bd hml0 hP hK
  obtain ⟨rfl, hZ, hh, hCH⟩ := hP
  have hx := Bd.exec
  have hby := Bd.bytes
  have hB := @hb _ _ hby
  have hml : c.maxLocals = 12 := hml0
  have hown : s.vm.findClass "com/example/label_lattice/labellattice/RangeIsWrittenAsRangePinLaw" = some m.cls := findClass_of_methodNamed Bd.named
  have hnm := (name_of_methodNamed Bd.named Bd.method).1
  have X0 : Stand p l e room_1 (s.setVm s.vm) m #[.int p0, .int p1, .int p2, .int p3, .int p4] below meth c s₁ [] 0 0 := Stand.of_body Bd
  have e0 : s₁.heap = h0 := by rw [← hh, Bd.state]; rfl
  have hS0 : s.Since s.vm h0.size := (State.WarmedH.refl s).since _
  have hk0 : h0.size ≤ h0.size := Nat.le_refl _
  have R0 : CHr Z own_EL s.vm h0 s.vm h0 := CHr.refl hCH
  have hEL := own_ew hw
  have N0 := Fr.nil n0
  have pre0 : ∀ t, Steps p.tables e below (s₁.setTop (mkF m 0 #[.val (.int p0), .val (.int p1), .val (.int p2), .val (.int p3), .val (.int p4), .unset, .unset, .unset, .unset, .unset, .unset, .unset] [])) t → Steps p.tables e below (s₁.setTop (entryFrame m #[.int p0, .int p1, .int p2, .int p3, .int p4] maxLocals)) t := fun t kk_ => castTop (ef_code_IIIII m p0 p1 p2 p3 p4) kk_
  -- pc 9: com/example/label_lattice/labellattice/RangeIsWrittenAsRangePinLaw.ch
  obtain ⟨_, _, ⟨T589, L589, k589, n589⟩, -, X589, ⟨Lc589, hQ589, l589, y589, z589⟩, st589⟩ := Jvm.LawKit.callS X0 hx (y := y28) hown (mvT hZ (W 1 rfl)) (mvT hZ (W 2 rfl)) (mvT hZ (W 3 rfl)) (mvT hZ (W 4 rfl)) (by decide) (backOf (W := 0) (rmch l Z a0 G1 fm hG [] p1 h0 n0 Z0 X00) hZ (W 4 rfl) (W 3 rfl) (by decide) (by decide)) (g := (mkF m 9 #[.val (.int p0), .val (.int p1), .val (.int p2), .val (.int p3), .val (.int p4), .val (.int 1), .unset, .unset, .unset, .unset, .unset, .unset] [.int p1])) rfl (by rw [hml]; rfl) (argsL := [.int p1]) (rest := []) (lenOf pd__I_C rfl) rfl (by show 2 * 0 + _ ≤ _; exact Nat.le_of_eq rfl) (hB at_9) (fun _ _ => ⟨rfl, e0, (by decide : 0 + 0 ≤ _), (by decide : 0 + 0 ≤ _)⟩)
  dsimp only [Pt.U, Pt.locs, Pt.cells, Pt.slots] at X589 l589 y589 z589 st589 hQ589
  subst l589 y589 z589
  obtain ⟨r_589, rfl, N589q, eq589, f589_0⟩ := hQ589
  have N589 := Fr.app N0 N589q
  -- pc 15: com/example/label_lattice/labellattice/RangeIsWrittenAsRangePinLaw.ch
  obtain ⟨_, _, ⟨T590, L590, k590, n590⟩, -, X590, ⟨Lc590, hQ590, l590, y590, z590⟩, st590⟩ := Jvm.LawKit.callS X589 hx (y := y28) hown (mvT hZ (W 1 rfl)) (mvT hZ (W 2 rfl)) (mvT hZ (W 3 rfl)) (mvT hZ (W 4 rfl)) (by decide) (backOf (W := 0) (rmch l Z a0 G1 fm hG [] p2 h0 n0 Z0 X00) hZ (W 4 rfl) (W 3 rfl) (by decide) (by decide)) (g := (mkF m 15 #[.val (.int p0), .val (.int p1), .val (.int p2), .val (.int p3), .val (.int p4), .val (.int 1), .val (.int r_589), .unset, .unset, .unset, .unset, .unset] [.int p2])) rfl (by rw [hml]; rfl) (argsL := [.int p2]) (rest := []) (lenOf pd__I_C rfl) rfl (by show 2 * 0 + _ ≤ _; exact Nat.le_of_eq rfl) (hB at_15) (fun _ _ => ⟨rfl, eq589, (by decide : 0 + 0 ≤ _), (by decide : 0 + 0 ≤ _)⟩)
  dsimp only [Pt.U, Pt.locs, Pt.cells, Pt.slots] at X590 l590 y590 z590 st590 hQ590
  subst l590 y590 z590
  obtain ⟨r_590, rfl, N590q, eq590, f590_0⟩ := hQ590
  have N590 := Fr.app N589 N590q
  -- pc 21: com/example/label_lattice/labellattice/RangeIsWrittenAsRangePinLaw.ch
  obtain ⟨_, _, ⟨T591, L591, k591, n591⟩, -, X591, ⟨Lc591, hQ591, l591, y591, z591⟩, st591⟩ := Jvm.LawKit.callS X590 hx (y := y28) hown (mvT hZ (W 1 rfl)) (mvT hZ (W 2 rfl)) (mvT hZ (W 3 rfl)) (mvT hZ (W 4 rfl)) (by decide) (backOf (W := 0) (rmch l Z a0 G1 fm hG [] p3 h0 n0 Z0 X00) hZ (W 4 rfl) (W 3 rfl) (by decide) (by decide)) (g := (mkF m 21 #[.val (.int p0), .val (.int p1), .val (.int p2), .val (.int p3), .val (.int p4), .val (.int 1), .val (.int r_589), .val (.int r_590), .unset, .unset, .unset, .unset] [.int p3])) rfl (by rw [hml]; rfl) (argsL := [.int p3]) (rest := []) (lenOf pd__I_C rfl) rfl (by show 2 * 0 + _ ≤ _; exact Nat.le_of_eq rfl) (hB at_21) (fun _ _ => ⟨rfl, eq590, (by decide : 0 + 0 ≤ _), (by decide : 0 + 0 ≤ _)⟩)
  dsimp only [Pt.U, Pt.locs, Pt.cells, Pt.slots] at X591 l591 y591 z591 st591 hQ591
  subst l591 y591 z591
  obtain ⟨r_591, rfl, N591q, eq591, f591_0⟩ := hQ591
  have N591 := Fr.app N590 N591q
  -- pc 28: com/example/label_lattice/labellattice/RangeIsWrittenAsRangePinLaw.ch
  obtain ⟨_, _, ⟨T592, L592, k592, n592⟩, -, X592, ⟨Lc592, hQ592, l592, y592, z592⟩, st592⟩ := Jvm.LawKit.callS X591 hx (y := y28) hown (mvT hZ (W 1 rfl)) (mvT hZ (W 2 rfl)) (mvT hZ (W 3 rfl)) (mvT hZ (W 4 rfl)) (by decide) (backOf (W := 0) (rmch l Z a0 G1 fm hG [] p4 h0 n0 Z0 X00) hZ (W 4 rfl) (W 3 rfl) (by decide) (by decide)) (g := (mkF m 28 #[.val (.int p0), .val (.int p1), .val (.int p2), .val (.int p3), .val (.int p4), .val (.int 1), .val (.int r_589), .val (.int r_590), .val (.int r_591), .unset, .unset, .unset] [.int p4])) rfl (by rw [hml]; rfl) (argsL := [.int p4]) (rest := []) (lenOf pd__I_C rfl) rfl (by show 2 * 0 + _ ≤ _; exact Nat.le_of_eq rfl) (hB at_28) (fun _ _ => ⟨rfl, eq591, (by decide : 0 + 0 ≤ _), (by decide : 0 + 0 ≤ _)⟩)
  dsimp only [Pt.U, Pt.locs, Pt.cells, Pt.slots] at X592 l592 y592 z592 st592 hQ592
  subst l592 y592 z592
  obtain ⟨r_592, rfl, N592q, eq592, f592_0⟩ := hQ592
  have N592 := Fr.app N591 N592q
  -- pc 43: com/example/label_lattice/labellattice/RangeIsWrittenAsRangePinLaw.make
  obtain ⟨_, _, ⟨T593, L593, k593, n593⟩, -, X593, ⟨Lc593, hQ593, l593, y593, z593⟩, st593⟩ := Jvm.LawKit.callS X592 hx (y := y29) hown (mvT hZ (W 5 rfl)) (mvT hZ (W 6 rfl)) (mvT hZ (W 3 rfl)) (mvT hZ (W 7 rfl)) (by decide) (backOf (W := 0) (rmmk1 l Z a0 G1 fm hG [] r_589 r_590 r_591 r_592 h0 n0 Z0 X00 f589_0 f590_0 f591_0 f592_0) hZ (W 7 rfl) (W 3 rfl) (by decide) (by decide)) (g := (mkF m 43 #[.val (.int p0), .val (.int p1), .val (.int p2), .val (.int p3), .val (.int p4), .val (.int 1), .val (.int r_589), .val (.int r_590), .val (.int r_591), .val (.int r_592), .unset, .unset] [.int r_592, .int r_591, .int r_590, .int r_589, .int 1])) rfl (by rw [hml]; rfl) (argsL := [.int 1, .int r_589, .int r_590, .int r_591, .int r_592]) (rest := []) (lenOf pd__ICCCC_Ljava_lang_String_ rfl) rfl (by show 2 * 0 + _ ≤ _; exact Nat.le_of_eq rfl) (hB at_43) (fun _ _ => ⟨rfl, eq592, (by decide : 0 + 4 ≤ _), (by decide : 0 + 8 ≤ _)⟩)
  dsimp only [Pt.U, Pt.locs, Pt.cells, Pt.slots] at X593 l593 y593 z593 st593 hQ593
  subst l593 y593 z593
  obtain ⟨b_593, t_593, kb_593, cd_593, z_593, vs_593, rfl, N593q, K593, f593_0, f593_1, f593_2, f593_3, f593_4, f593_5⟩ := hQ593
  have N593 := Fr.app N592 N593q
  have Z594 : n0 ≤ T593.heap.size := Nat.le_trans Z0 K593.1
  have K0_594 : Keep h0 T593.heap [] := (Keep.refl h0 []).trans K593 all0
  have O594 : Old Z n0 T593.heap := X00.keep K593 all0
  have R594 : CHr Z own_EL s.vm h0 s.vm T593.heap := R0.trans (CHr.keep K593 sf0 R0.1)
  have hk594 : h0.size ≤ T593.heap.size := Nat.le_trans hk0 K593.1
  have lo_b_593 : h0.size ≤ b_593 := f593_0
  have g_b_593 : n0 ≤ b_593 := Nat.le_trans Z0 lo_b_593
  have l0_b_593 : h0.size ≤ b_593 := Nat.le_trans (Keep.refl h0 []).1 lo_b_593
  obtain ⟨T595, L595, X595, N595, K595, st595⟩ := sgexp Z a0 G1 fm hG p0 p1 p2 p3 p4 (1 : Int32) r_589 r_590 r_591 r_592 b_593 ([r_589] : List Int32) 4 8 T593.heap n0 Z594 O594 (Or.inr (Or.inl ⟨rfl, rfl⟩)) X593 hx hZ hby hml hown rfl N593
  have Z596 : n0 ≤ T595.heap.size := Nat.le_trans Z594 K595.1
  have K0_596 : Keep h0 T595.heap [] := K0_594.trans K595 all0
  have O596 : Old Z n0 T595.heap := O594.keep K595 all0
  have R596 : CHr Z own_EL s.vm h0 s.vm T595.heap := R594.trans (CHr.keep K595 sf0 R594.1)
  have hk596 : h0.size ≤ T595.heap.size := Nat.le_trans hk594 K595.1
  have f598 := (f593_1.keep K595)
  have f599 := (f593_2.keep K595 nin0)
  have f600 := (f593_3.keep K595 nin0)
  have f601 := (f593_4.keep K595 nin0)
  -- pc 109: com/example/label_lattice/labellattice/Range.isWrittenAsRange
  obtain ⟨_, _, ⟨T597, L597, k597, n597⟩, -, X597, ⟨Lc597, hQ597, l597, y597, z597⟩, st597⟩ := Jvm.LawKit.callS X595 hx (y := y27) hown (mvT hZ (W 30 rfl)) (mvT hZ (W 31 rfl)) (mvT hZ (W 32 rfl)) (mvT hZ (W 33 rfl)) (by decide) (backOf (W := 0) (rmiw l Z a0 G1 fm hG [] b_593 t_593 kb_593 cd_593 z_593 vs_593 ([r_589] : List Int32) (1 : Int32) T595.heap n0 Z596 O596 f598 f599 f600 f601 f593_5 (own_ble rfl) (own_all1 f589_0) rfl) hZ (W 33 rfl) (W 32 rfl) (by decide) (by decide)) (g := (mkF m 109 #[.val (.int p0), .val (.int p1), .val (.int p2), .val (.int p3), .val (.int p4), .val (.int 1), .val (.int r_589), .val (.int r_590), .val (.int r_591), .val (.int r_592), .val (.ref b_593), .val (.int (own_has ([r_589] : List Int32)))] [.ref b_593])) rfl (by rw [hml]; rfl) (argsL := [.ref b_593]) (rest := []) (lenOf pd__Ljava_lang_String__Z rfl) rfl (by show 2 * 0 + _ ≤ _; exact Nat.le_of_eq rfl) (hB at_109) (fun _ _ => ⟨rfl, rfl, (by decide : 4 + 0 ≤ _), (by decide : 8 + 0 ≤ _)⟩)
  dsimp only [Pt.U, Pt.locs, Pt.cells, Pt.slots] at X597 l597 y597 z597 st597 hQ597
  subst l597 y597 z597
  obtain ⟨rfl, N597q, eq597⟩ := hQ597
  have N597 := Fr.app N595 N597q
  obtain ⟨fs, hr, hrun, hended, hend⟩ := Jvm.Stand.leaveW (v := some (.int 1)) X597 hS0 (by rw [eq597]; exact hk596) (fun h => by rw [Bd.returns] at h; cases h)
  have hFin := R596.trans (CHv.at X597 hZ hEL R596.1)
  refine ⟨_, _, pre0 _ ?_, hrun, hended, _, _, rfl, ?_, ?_, own_mono hend (own_ble rfl) (own_ble rfl)⟩
  · show Steps _ _ _ (s₁.setTop (mkF m 0 #[.val (.int p0), .val (.int p1), .val (.int p2), .val (.int p3), .val (.int p4), .unset, .unset, .unset, .unset, .unset, .unset, .unset] [])) _
    refine XS.iloadN X0.here hx rfl (hB at_0) rfl ?_
    refine X0.ldcInt hx hown (mvT hZ (W 0 rfl)) (g := (mkF m 1 #[.val (.int p0), .val (.int p1), .val (.int p2), .val (.int p3), .val (.int p4), .unset, .unset, .unset, .unset, .unset, .unset, .unset] [.int p0])) rfl (hB at_1) _ ?_
    refine XS.iand X0.here hx rfl (hB at_3) rfl ?_
    refine XS.iconst X0.here hx rfl (hB at_4) ?_
    refine iremM (g := (mkF m 5 #[.val (.int p0), .val (.int p1), .val (.int p2), .val (.int p3), .val (.int p4), .unset, .unset, .unset, .unset, .unset, .unset, .unset] [.int 5, (.int (p0 &&& (2147483647 : Int32)))])) X0 hx rfl (hB at_5) rfl (by decide) ?_
    show Steps _ _ _ (s₁.setTop (mkF m 6 #[.val (.int p0), .val (.int p1), .val (.int p2), .val (.int p3), .val (.int p4), .unset, .unset, .unset, .unset, .unset, .unset, .unset] [(.int ((p0 &&& (2147483647 : Int32)) % (5 : Int32)))])) _
    rw [hn]
    show Steps _ _ _ (s₁.setTop (mkF m 6 #[.val (.int p0), .val (.int p1), .val (.int p2), .val (.int p3), .val (.int p4), .unset, .unset, .unset, .unset, .unset, .unset, .unset] [.int 1])) _
    refine XS.istore X0.here hx rfl (hB at_6) rfl (l' := #[.val (.int p0), .val (.int p1), .val (.int p2), .val (.int p3), .val (.int p4), .val (.int 1), .unset, .unset, .unset, .unset, .unset, .unset]) rfl ?_
    refine XS.iloadN X0.here hx rfl (hB at_8) rfl ?_
    refine st589 _ ?_
    show Steps _ _ _ (T589.setTop (mkF m 12 #[.val (.int p0), .val (.int p1), .val (.int p2), .val (.int p3), .val (.int p4), .val (.int 1), .unset, .unset, .unset, .unset, .unset, .unset] [.int r_589])) _
    refine XS.istore X589.here hx rfl (hB at_12) rfl (l' := #[.val (.int p0), .val (.int p1), .val (.int p2), .val (.int p3), .val (.int p4), .val (.int 1), .val (.int r_589), .unset, .unset, .unset, .unset, .unset]) rfl ?_
    refine XS.iloadN X589.here hx rfl (hB at_14) rfl ?_
    refine st590 _ ?_
    show Steps _ _ _ (T590.setTop (mkF m 18 #[.val (.int p0), .val (.int p1), .val (.int p2), .val (.int p3), .val (.int p4), .val (.int 1), .val (.int r_589), .unset, .unset, .unset, .unset, .unset] [.int r_590])) _
    refine XS.istore X590.here hx rfl (hB at_18) rfl (l' := #[.val (.int p0), .val (.int p1), .val (.int p2), .val (.int p3), .val (.int p4), .val (.int 1), .val (.int r_589), .val (.int r_590), .unset, .unset, .unset, .unset]) rfl ?_
    refine XS.iloadN X590.here hx rfl (hB at_20) rfl ?_
    refine st591 _ ?_
    show Steps _ _ _ (T591.setTop (mkF m 24 #[.val (.int p0), .val (.int p1), .val (.int p2), .val (.int p3), .val (.int p4), .val (.int 1), .val (.int r_589), .val (.int r_590), .unset, .unset, .unset, .unset] [.int r_591])) _
    refine XS.istore X591.here hx rfl (hB at_24) rfl (l' := #[.val (.int p0), .val (.int p1), .val (.int p2), .val (.int p3), .val (.int p4), .val (.int 1), .val (.int r_589), .val (.int r_590), .val (.int r_591), .unset, .unset, .unset]) rfl ?_
    refine XS.iload X591.here hx rfl (hB at_26) rfl ?_
    refine st592 _ ?_
    show Steps _ _ _ (T592.setTop (mkF m 31 #[.val (.int p0), .val (.int p1), .val (.int p2), .val (.int p3), .val (.int p4), .val (.int 1), .val (.int r_589), .val (.int r_590), .val (.int r_591), .unset, .unset, .unset] [.int r_592])) _
    refine XS.istore X592.here hx rfl (hB at_31) rfl (l' := #[.val (.int p0), .val (.int p1), .val (.int p2), .val (.int p3), .val (.int p4), .val (.int 1), .val (.int r_589), .val (.int r_590), .val (.int r_591), .val (.int r_592), .unset, .unset]) rfl ?_
    refine XS.iload X592.here hx rfl (hB at_33) rfl ?_
    refine XS.iload X592.here hx rfl (hB at_35) rfl ?_
    refine XS.iload X592.here hx rfl (hB at_37) rfl ?_
    refine XS.iload X592.here hx rfl (hB at_39) rfl ?_
    refine XS.iload X592.here hx rfl (hB at_41) rfl ?_
    refine st593 _ ?_
    show Steps _ _ _ (T593.setTop (mkF m 46 #[.val (.int p0), .val (.int p1), .val (.int p2), .val (.int p3), .val (.int p4), .val (.int 1), .val (.int r_589), .val (.int r_590), .val (.int r_591), .val (.int r_592), .unset, .unset] [.ref b_593])) _
    refine XS.astore X593.here hx rfl (hB at_46) rfl rfl (l' := #[.val (.int p0), .val (.int p1), .val (.int p2), .val (.int p3), .val (.int p4), .val (.int 1), .val (.int r_589), .val (.int r_590), .val (.int r_591), .val (.int r_592), .val (.ref b_593), .unset]) rfl ?_
    show Steps _ _ _ (T593.setTop (mkF m 48 #[.val (.int p0), .val (.int p1), .val (.int p2), .val (.int p3), .val (.int p4), .val (.int 1), .val (.int r_589), .val (.int r_590), .val (.int r_591), .val (.int r_592), .val (.ref b_593), .unset] [])) _
    refine st595 _ ?_
    show Steps _ _ _ (T595.setTop (mkF m 105 #[.val (.int p0), .val (.int p1), .val (.int p2), .val (.int p3), .val (.int p4), .val (.int 1), .val (.int r_589), .val (.int r_590), .val (.int r_591), .val (.int r_592), .val (.ref b_593), .unset] [(.int (own_has ([r_589] : List Int32)))])) _
    refine XS.istore X595.here hx rfl (hB at_105) rfl (l' := #[.val (.int p0), .val (.int p1), .val (.int p2), .val (.int p3), .val (.int p4), .val (.int 1), .val (.int r_589), .val (.int r_590), .val (.int r_591), .val (.int r_592), .val (.ref b_593), .val (.int (own_has ([r_589] : List Int32)))]) rfl ?_
    refine XS.aload X595.here hx rfl (hB at_107) rfl rfl ?_
    refine st597 _ ?_
    show Steps _ _ _ (T597.setTop (mkF m 112 #[.val (.int p0), .val (.int p1), .val (.int p2), .val (.int p3), .val (.int p4), .val (.int 1), .val (.int r_589), .val (.int r_590), .val (.int r_591), .val (.int r_592), .val (.ref b_593), .val (.int (own_has ([r_589] : List Int32)))] [(.int (own_has ([r_589] : List Int32)))])) _
    refine XS.iload X597.here hx rfl (hB at_112) rfl ?_
    refine XS.icmpNo X597.here hx rfl (hB at_114) rfl (teq (rfl : (own_has ([r_589] : List Int32)) = (own_has ([r_589] : List Int32)))).2 ?_
    refine XS.iconst X597.here hx rfl (hB at_117) ?_
    refine XS.goto X597.here hx rfl (pc0 := 118) (pc' := 122) rfl (hB at_118) (by decide) (by decide) ?_
    exact retN X597 hx (t := .boolean) Bd.returns (by simp) (hB at_122) hr
  · show Q0 Z G1 fm p0 p1 p2 p3 p4 h0 n0 _ T597.heap _
    rw [eq597]
    exact ⟨rfl, N597, K0_596⟩
  · show CHr Z own_EL s.vm s.heap T597.vm T597.heap
    rw [hh, eq597]
    exact hFin
theorem rm0_2 (l : Launch) (Z : State) (a0 : Array Value) (G1 : Int32) (fm : Value) (hG : Glob Z a0 G1 fm) (ws : List Jvm.Cond) (p0 : Int32) (p1 : Int32) (p2 : Int32) (p3 : Int32) (p4 : Int32) (h0 : Heap) (n0 : Nat) (Z0 : n0 ≤ h0.size) (X00 : Old Z n0 h0) (hn : ((p0 &&& (2147483647 : Int32)) % (5 : Int32)) = (2 : Int32)) :
    MetFree l x (head1 (Jvm.Cond.code x code maxLocals ret :: ws) room_1) (fun a U => a = #[.int p0, .int p1, .int p2, .int p3, .int p4] ∧ Z.Warmed39 U.vm ∧ U.heap = h0 ∧ CHv Z own_EL U.vm h0) (fun _ _ _ _ _ => True) (fun _ U o U' => ∃ v L, o = .returned v ∧ Q0 Z G1 fm p0 p1 p2 p3 p4 h0 n0 v U'.heap L ∧ CHr Z own_EL U.vm U.heap U'.vm U'.heap ∧ ReturnedEndW U o U' L room_1.cells room_1.slots) := by
  obtain ⟨hw, O_cs, P_cs, O_as, O_hi, O_lo, O_fm, R_fm⟩ := id hG
  have W := @own_W _ _ hw
  refine MetFree.of_bodySF (plainFor_of_name pn_com_example_label_lattice_labellattice_RangeIsWrittenAsRangePinLaw) hisR ?_
  intro p e s m args below meth c s₁ Bd hml0 hP hK
  obtain ⟨rfl, hZ, hh, hCH⟩ := hP
  have hx := Bd.exec
  have hby := Bd.bytes
  have hB := @hb _ _ hby
  have hml : c.maxLocals = 12 := hml0
  have hown : s.vm.findClass "com/example/label_lattice/labellattice/RangeIsWrittenAsRangePinLaw" = some m.cls := findClass_of_methodNamed Bd.named
  have hnm := (name_of_methodNamed Bd.named Bd.method).1
  have X0 : Stand p l e room_1 (s.setVm s.vm) m #[.int p0, .int p1, .int p2, .int p3, .int p4] below meth c s₁ [] 0 0 := Stand.of_body Bd
  have e0 : s₁.heap = h0 := by rw [← hh, Bd.state]; rfl
  have hS0 : s.Since s.vm h0.size := (State.WarmedH.refl s).since _
  have hk0 : h0.size ≤ h0.size := Nat.le_refl _
  have R0 : CHr Z own_EL s.vm h0 s.vm h0 := CHr.refl hCH
  have hEL := own_ew hw
  have N0 := Fr.nil n0
  have pre0 : ∀ t, Steps p.tables e below (s₁.setTop (mkF m 0 #[.val (.int p0), .val (.int p1), .val (.int p2), .val (.int p3), .val (.int p4), .unset, .unset, .unset, .unset, .unset, .unset, .unset] [])) t → Steps p.tables e below (s₁.setTop (entryFrame m #[.int p0, .int p1, .int p2, .int p3, .int p4] maxLocals)) t := fun t kk_ => castTop (ef_code_IIIII m p0 p1 p2 p3 p4) kk_
  -- pc 9: com/example/label_lattice/labellattice/RangeIsWrittenAsRangePinLaw.ch
  obtain ⟨_, _, ⟨T602, L602, k602, n602⟩, -, X602, ⟨Lc602, hQ602, l602, y602, z602⟩, st602⟩ := Jvm.LawKit.callS X0 hx (y := y28) hown (mvT hZ (W 1 rfl)) (mvT hZ (W 2 rfl)) (mvT hZ (W 3 rfl)) (mvT hZ (W 4 rfl)) (by decide) (backOf (W := 0) (rmch l Z a0 G1 fm hG [] p1 h0 n0 Z0 X00) hZ (W 4 rfl) (W 3 rfl) (by decide) (by decide)) (g := (mkF m 9 #[.val (.int p0), .val (.int p1), .val (.int p2), .val (.int p3), .val (.int p4), .val (.int 2), .unset, .unset, .unset, .unset, .unset, .unset] [.int p1])) rfl (by rw [hml]; rfl) (argsL := [.int p1]) (rest := []) (lenOf pd__I_C rfl) rfl (by show 2 * 0 + _ ≤ _; exact Nat.le_of_eq rfl) (hB at_9) (fun _ _ => ⟨rfl, e0, (by decide : 0 + 0 ≤ _), (by decide : 0 + 0 ≤ _)⟩)
  dsimp only [Pt.U, Pt.locs, Pt.cells, Pt.slots] at X602 l602 y602 z602 st602 hQ602
  subst l602 y602 z602
  obtain ⟨r_602, rfl, N602q, eq602, f602_0⟩ := hQ602
  have N602 := Fr.app N0 N602q
  -- pc 15: com/example/label_lattice/labellattice/RangeIsWrittenAsRangePinLaw.ch
  obtain ⟨_, _, ⟨T603, L603, k603, n603⟩, -, X603, ⟨Lc603, hQ603, l603, y603, z603⟩, st603⟩ := Jvm.LawKit.callS X602 hx (y := y28) hown (mvT hZ (W 1 rfl)) (mvT hZ (W 2 rfl)) (mvT hZ (W 3 rfl)) (mvT hZ (W 4 rfl)) (by decide) (backOf (W := 0) (rmch l Z a0 G1 fm hG [] p2 h0 n0 Z0 X00) hZ (W 4 rfl) (W 3 rfl) (by decide) (by decide)) (g := (mkF m 15 #[.val (.int p0), .val (.int p1), .val (.int p2), .val (.int p3), .val (.int p4), .val (.int 2), .val (.int r_602), .unset, .unset, .unset, .unset, .unset] [.int p2])) rfl (by rw [hml]; rfl) (argsL := [.int p2]) (rest := []) (lenOf pd__I_C rfl) rfl (by show 2 * 0 + _ ≤ _; exact Nat.le_of_eq rfl) (hB at_15) (fun _ _ => ⟨rfl, eq602, (by decide : 0 + 0 ≤ _), (by decide : 0 + 0 ≤ _)⟩)
  dsimp only [Pt.U, Pt.locs, Pt.cells, Pt.slots] at X603 l603 y603 z603 st603 hQ603
  subst l603 y603 z603
  obtain ⟨r_603, rfl, N603q, eq603, f603_0⟩ := hQ603
  have N603 := Fr.app N602 N603q
  -- pc 21: com/example/label_lattice/labellattice/RangeIsWrittenAsRangePinLaw.ch
  obtain ⟨_, _, ⟨T604, L604, k604, n604⟩, -, X604, ⟨Lc604, hQ604, l604, y604, z604⟩, st604⟩ := Jvm.LawKit.callS X603 hx (y := y28) hown (mvT hZ (W 1 rfl)) (mvT hZ (W 2 rfl)) (mvT hZ (W 3 rfl)) (mvT hZ (W 4 rfl)) (by decide) (backOf (W := 0) (rmch l Z a0 G1 fm hG [] p3 h0 n0 Z0 X00) hZ (W 4 rfl) (W 3 rfl) (by decide) (by decide)) (g := (mkF m 21 #[.val (.int p0), .val (.int p1), .val (.int p2), .val (.int p3), .val (.int p4), .val (.int 2), .val (.int r_602), .val (.int r_603), .unset, .unset, .unset, .unset] [.int p3])) rfl (by rw [hml]; rfl) (argsL := [.int p3]) (rest := []) (lenOf pd__I_C rfl) rfl (by show 2 * 0 + _ ≤ _; exact Nat.le_of_eq rfl) (hB at_21) (fun _ _ => ⟨rfl, eq603, (by decide : 0 + 0 ≤ _), (by decide : 0 + 0 ≤ _)⟩)
  dsimp only [Pt.U, Pt.locs, Pt.cells, Pt.slots] at X604 l604 y604 z604 st604 hQ604
  subst l604 y604 z604
  obtain ⟨r_604, rfl, N604q, eq604, f604_0⟩ := hQ604
  have N604 := Fr.app N603 N604q
  -- pc 28: com/example/label_lattice/labellattice/RangeIsWrittenAsRangePinLaw.ch
  obtain ⟨_, _, ⟨T605, L605, k605, n605⟩, -, X605, ⟨Lc605, hQ605, l605, y605, z605⟩, st605⟩ := Jvm.LawKit.callS X604 hx (y := y28) hown (mvT hZ (W 1 rfl)) (mvT hZ (W 2 rfl)) (mvT hZ (W 3 rfl)) (mvT hZ (W 4 rfl)) (by decide) (backOf (W := 0) (rmch l Z a0 G1 fm hG [] p4 h0 n0 Z0 X00) hZ (W 4 rfl) (W 3 rfl) (by decide) (by decide)) (g := (mkF m 28 #[.val (.int p0), .val (.int p1), .val (.int p2), .val (.int p3), .val (.int p4), .val (.int 2), .val (.int r_602), .val (.int r_603), .val (.int r_604), .unset, .unset, .unset] [.int p4])) rfl (by rw [hml]; rfl) (argsL := [.int p4]) (rest := []) (lenOf pd__I_C rfl) rfl (by show 2 * 0 + _ ≤ _; exact Nat.le_of_eq rfl) (hB at_28) (fun _ _ => ⟨rfl, eq604, (by decide : 0 + 0 ≤ _), (by decide : 0 + 0 ≤ _)⟩)
  dsimp only [Pt.U, Pt.locs, Pt.cells, Pt.slots] at X605 l605 y605 z605 st605 hQ605
  subst l605 y605 z605
  obtain ⟨r_605, rfl, N605q, eq605, f605_0⟩ := hQ605
  have N605 := Fr.app N604 N605q
  -- pc 43: com/example/label_lattice/labellattice/RangeIsWrittenAsRangePinLaw.make
  obtain ⟨_, _, ⟨T606, L606, k606, n606⟩, -, X606, ⟨Lc606, hQ606, l606, y606, z606⟩, st606⟩ := Jvm.LawKit.callS X605 hx (y := y29) hown (mvT hZ (W 5 rfl)) (mvT hZ (W 6 rfl)) (mvT hZ (W 3 rfl)) (mvT hZ (W 7 rfl)) (by decide) (backOf (W := 0) (rmmk2 l Z a0 G1 fm hG [] r_602 r_603 r_604 r_605 h0 n0 Z0 X00 f602_0 f603_0 f604_0 f605_0) hZ (W 7 rfl) (W 3 rfl) (by decide) (by decide)) (g := (mkF m 43 #[.val (.int p0), .val (.int p1), .val (.int p2), .val (.int p3), .val (.int p4), .val (.int 2), .val (.int r_602), .val (.int r_603), .val (.int r_604), .val (.int r_605), .unset, .unset] [.int r_605, .int r_604, .int r_603, .int r_602, .int 2])) rfl (by rw [hml]; rfl) (argsL := [.int 2, .int r_602, .int r_603, .int r_604, .int r_605]) (rest := []) (lenOf pd__ICCCC_Ljava_lang_String_ rfl) rfl (by show 2 * 0 + _ ≤ _; exact Nat.le_of_eq rfl) (hB at_43) (fun _ _ => ⟨rfl, eq605, (by decide : 0 + 4 ≤ _), (by decide : 0 + 12 ≤ _)⟩)
  dsimp only [Pt.U, Pt.locs, Pt.cells, Pt.slots] at X606 l606 y606 z606 st606 hQ606
  subst l606 y606 z606
  obtain ⟨b_606, t_606, kb_606, cd_606, z_606, vs_606, rfl, N606q, K606, f606_0, f606_1, f606_2, f606_3, f606_4, f606_5⟩ := hQ606
  have N606 := Fr.app N605 N606q
  have Z607 : n0 ≤ T606.heap.size := Nat.le_trans Z0 K606.1
  have K0_607 : Keep h0 T606.heap [] := (Keep.refl h0 []).trans K606 all0
  have O607 : Old Z n0 T606.heap := X00.keep K606 all0
  have R607 : CHr Z own_EL s.vm h0 s.vm T606.heap := R0.trans (CHr.keep K606 sf0 R0.1)
  have hk607 : h0.size ≤ T606.heap.size := Nat.le_trans hk0 K606.1
  have lo_b_606 : h0.size ≤ b_606 := f606_0
  have g_b_606 : n0 ≤ b_606 := Nat.le_trans Z0 lo_b_606
  have l0_b_606 : h0.size ≤ b_606 := Nat.le_trans (Keep.refl h0 []).1 lo_b_606
  obtain ⟨T608, L608, X608, N608, K608, st608⟩ := sgexp Z a0 G1 fm hG p0 p1 p2 p3 p4 (2 : Int32) r_602 r_603 r_604 r_605 b_606 ([r_602, r_603] : List Int32) 4 12 T606.heap n0 Z607 O607 (Or.inr (Or.inr (Or.inl ⟨rfl, rfl⟩))) X606 hx hZ hby hml hown rfl N606
  have Z609 : n0 ≤ T608.heap.size := Nat.le_trans Z607 K608.1
  have K0_609 : Keep h0 T608.heap [] := K0_607.trans K608 all0
  have O609 : Old Z n0 T608.heap := O607.keep K608 all0
  have R609 : CHr Z own_EL s.vm h0 s.vm T608.heap := R607.trans (CHr.keep K608 sf0 R607.1)
  have hk609 : h0.size ≤ T608.heap.size := Nat.le_trans hk607 K608.1
  have f611 := (f606_1.keep K608)
  have f612 := (f606_2.keep K608 nin0)
  have f613 := (f606_3.keep K608 nin0)
  have f614 := (f606_4.keep K608 nin0)
  -- pc 109: com/example/label_lattice/labellattice/Range.isWrittenAsRange
  obtain ⟨_, _, ⟨T610, L610, k610, n610⟩, -, X610, ⟨Lc610, hQ610, l610, y610, z610⟩, st610⟩ := Jvm.LawKit.callS X608 hx (y := y27) hown (mvT hZ (W 30 rfl)) (mvT hZ (W 31 rfl)) (mvT hZ (W 32 rfl)) (mvT hZ (W 33 rfl)) (by decide) (backOf (W := 0) (rmiw l Z a0 G1 fm hG [] b_606 t_606 kb_606 cd_606 z_606 vs_606 ([r_602, r_603] : List Int32) (2 : Int32) T608.heap n0 Z609 O609 f611 f612 f613 f614 f606_5 (own_ble rfl) (own_all2 f602_0 f603_0) rfl) hZ (W 33 rfl) (W 32 rfl) (by decide) (by decide)) (g := (mkF m 109 #[.val (.int p0), .val (.int p1), .val (.int p2), .val (.int p3), .val (.int p4), .val (.int 2), .val (.int r_602), .val (.int r_603), .val (.int r_604), .val (.int r_605), .val (.ref b_606), .val (.int (own_has ([r_602, r_603] : List Int32)))] [.ref b_606])) rfl (by rw [hml]; rfl) (argsL := [.ref b_606]) (rest := []) (lenOf pd__Ljava_lang_String__Z rfl) rfl (by show 2 * 0 + _ ≤ _; exact Nat.le_of_eq rfl) (hB at_109) (fun _ _ => ⟨rfl, rfl, (by decide : 4 + 0 ≤ _), (by decide : 12 + 0 ≤ _)⟩)
  dsimp only [Pt.U, Pt.locs, Pt.cells, Pt.slots] at X610 l610 y610 z610 st610 hQ610
  subst l610 y610 z610
  obtain ⟨rfl, N610q, eq610⟩ := hQ610
  have N610 := Fr.app N608 N610q
  obtain ⟨fs, hr, hrun, hended, hend⟩ := Jvm.Stand.leaveW (v := some (.int 1)) X610 hS0 (by rw [eq610]; exact hk609) (fun h => by rw [Bd.returns] at h; cases h)
  have hFin := R609.trans (CHv.at X610 hZ hEL R609.1)
  refine ⟨_, _, pre0 _ ?_, hrun, hended, _, _, rfl, ?_, ?_, own_mono hend (own_ble rfl) (own_ble rfl)⟩
  · show Steps _ _ _ (s₁.setTop (mkF m 0 #[.val (.int p0), .val (.int p1), .val (.int p2), .val (.int p3), .val (.int p4), .unset, .unset, .unset, .unset, .unset, .unset, .unset] [])) _
    refine XS.iloadN X0.here hx rfl (hB at_0) rfl ?_
    refine X0.ldcInt hx hown (mvT hZ (W 0 rfl)) (g := (mkF m 1 #[.val (.int p0), .val (.int p1), .val (.int p2), .val (.int p3), .val (.int p4), .unset, .unset, .unset, .unset, .unset, .unset, .unset] [.int p0])) rfl (hB at_1) _ ?_
    refine XS.iand X0.here hx rfl (hB at_3) rfl ?_
    refine XS.iconst X0.here hx rfl (hB at_4) ?_
    refine iremM (g := (mkF m 5 #[.val (.int p0), .val (.int p1), .val (.int p2), .val (.int p3), .val (.int p4), .unset, .unset, .unset, .unset, .unset, .unset, .unset] [.int 5, (.int (p0 &&& (2147483647 : Int32)))])) X0 hx rfl (hB at_5) rfl (by decide) ?_
    show Steps _ _ _ (s₁.setTop (mkF m 6 #[.val (.int p0), .val (.int p1), .val (.int p2), .val (.int p3), .val (.int p4), .unset, .unset, .unset, .unset, .unset, .unset, .unset] [(.int ((p0 &&& (2147483647 : Int32)) % (5 : Int32)))])) _
    rw [hn]
    show Steps _ _ _ (s₁.setTop (mkF m 6 #[.val (.int p0), .val (.int p1), .val (.int p2), .val (.int p3), .val (.int p4), .unset, .unset, .unset, .unset, .unset, .unset, .unset] [.int 2])) _
    refine XS.istore X0.here hx rfl (hB at_6) rfl (l' := #[.val (.int p0), .val (.int p1), .val (.int p2), .val (.int p3), .val (.int p4), .val (.int 2), .unset, .unset, .unset, .unset, .unset, .unset]) rfl ?_
    refine XS.iloadN X0.here hx rfl (hB at_8) rfl ?_
    refine st602 _ ?_
    show Steps _ _ _ (T602.setTop (mkF m 12 #[.val (.int p0), .val (.int p1), .val (.int p2), .val (.int p3), .val (.int p4), .val (.int 2), .unset, .unset, .unset, .unset, .unset, .unset] [.int r_602])) _
    refine XS.istore X602.here hx rfl (hB at_12) rfl (l' := #[.val (.int p0), .val (.int p1), .val (.int p2), .val (.int p3), .val (.int p4), .val (.int 2), .val (.int r_602), .unset, .unset, .unset, .unset, .unset]) rfl ?_
    refine XS.iloadN X602.here hx rfl (hB at_14) rfl ?_
    refine st603 _ ?_
    show Steps _ _ _ (T603.setTop (mkF m 18 #[.val (.int p0), .val (.int p1), .val (.int p2), .val (.int p3), .val (.int p4), .val (.int 2), .val (.int r_602), .unset, .unset, .unset, .unset, .unset] [.int r_603])) _
    refine XS.istore X603.here hx rfl (hB at_18) rfl (l' := #[.val (.int p0), .val (.int p1), .val (.int p2), .val (.int p3), .val (.int p4), .val (.int 2), .val (.int r_602), .val (.int r_603), .unset, .unset, .unset, .unset]) rfl ?_
    refine XS.iloadN X603.here hx rfl (hB at_20) rfl ?_
    refine st604 _ ?_
    show Steps _ _ _ (T604.setTop (mkF m 24 #[.val (.int p0), .val (.int p1), .val (.int p2), .val (.int p3), .val (.int p4), .val (.int 2), .val (.int r_602), .val (.int r_603), .unset, .unset, .unset, .unset] [.int r_604])) _
    refine XS.istore X604.here hx rfl (hB at_24) rfl (l' := #[.val (.int p0), .val (.int p1), .val (.int p2), .val (.int p3), .val (.int p4), .val (.int 2), .val (.int r_602), .val (.int r_603), .val (.int r_604), .unset, .unset, .unset]) rfl ?_
    refine XS.iload X604.here hx rfl (hB at_26) rfl ?_
    refine st605 _ ?_
    show Steps _ _ _ (T605.setTop (mkF m 31 #[.val (.int p0), .val (.int p1), .val (.int p2), .val (.int p3), .val (.int p4), .val (.int 2), .val (.int r_602), .val (.int r_603), .val (.int r_604), .unset, .unset, .unset] [.int r_605])) _
    refine XS.istore X605.here hx rfl (hB at_31) rfl (l' := #[.val (.int p0), .val (.int p1), .val (.int p2), .val (.int p3), .val (.int p4), .val (.int 2), .val (.int r_602), .val (.int r_603), .val (.int r_604), .val (.int r_605), .unset, .unset]) rfl ?_
    refine XS.iload X605.here hx rfl (hB at_33) rfl ?_
    refine XS.iload X605.here hx rfl (hB at_35) rfl ?_
    refine XS.iload X605.here hx rfl (hB at_37) rfl ?_
    refine XS.iload X605.here hx rfl (hB at_39) rfl ?_
    refine XS.iload X605.here hx rfl (hB at_41) rfl ?_
    refine st606 _ ?_
    show Steps _ _ _ (T606.setTop (mkF m 46 #[.val (.int p0), .val (.int p1), .val (.int p2), .val (.int p3), .val (.int p4), .val (.int 2), .val (.int r_602), .val (.int r_603), .val (.int r_604), .val (.int r_605), .unset, .unset] [.ref b_606])) _
    refine XS.astore X606.here hx rfl (hB at_46) rfl rfl (l' := #[.val (.int p0), .val (.int p1), .val (.int p2), .val (.int p3), .val (.int p4), .val (.int 2), .val (.int r_602), .val (.int r_603), .val (.int r_604), .val (.int r_605), .val (.ref b_606), .unset]) rfl ?_
    show Steps _ _ _ (T606.setTop (mkF m 48 #[.val (.int p0), .val (.int p1), .val (.int p2), .val (.int p3), .val (.int p4), .val (.int 2), .val (.int r_602), .val (.int r_603), .val (.int r_604), .val (.int r_605), .val (.ref b_606), .unset] [])) _
    refine st608 _ ?_
    show Steps _ _ _ (T608.setTop (mkF m 105 #[.val (.int p0), .val (.int p1), .val (.int p2), .val (.int p3), .val (.int p4), .val (.int 2), .val (.int r_602), .val (.int r_603), .val (.int r_604), .val (.int r_605), .val (.ref b_606), .unset] [(.int (own_has ([r_602, r_603] : List Int32)))])) _
    refine XS.istore X608.here hx rfl (hB at_105) rfl (l' := #[.val (.int p0), .val (.int p1), .val (.int p2), .val (.int p3), .val (.int p4), .val (.int 2), .val (.int r_602), .val (.int r_603), .val (.int r_604), .val (.int r_605), .val (.ref b_606), .val (.int (own_has ([r_602, r_603] : List Int32)))]) rfl ?_
    refine XS.aload X608.here hx rfl (hB at_107) rfl rfl ?_
    refine st610 _ ?_
    show Steps _ _ _ (T610.setTop (mkF m 112 #[.val (.int p0), .val (.int p1), .val (.int p2), .val (.int p3), .val (.int p4), .val (.int 2), .val (.int r_602), .val (.int r_603), .val (.int r_604), .val (.int r_605), .val (.ref b_606), .val (.int (own_has ([r_602, r_603] : List Int32)))] [(.int (own_has ([r_602, r_603] : List Int32)))])) _
    refine XS.iload X610.here hx rfl (hB at_112) rfl ?_
    refine XS.icmpNo X610.here hx rfl (hB at_114) rfl (teq (rfl : (own_has ([r_602, r_603] : List Int32)) = (own_has ([r_602, r_603] : List Int32)))).2 ?_
    refine XS.iconst X610.here hx rfl (hB at_117) ?_
    refine XS.goto X610.here hx rfl (pc0 := 118) (pc' := 122) rfl (hB at_118) (by decide) (by decide) ?_
    exact retN X610 hx (t := .boolean) Bd.returns (by simp) (hB at_122) hr
  · show Q0 Z G1 fm p0 p1 p2 p3 p4 h0 n0 _ T610.heap _
    rw [eq610]
    exact ⟨rfl, N610, K0_609⟩
  · show CHr Z own_EL s.vm s.heap T610.vm T610.heap
    rw [hh, eq610]
    exact hFin
theorem rm0_3 (l : Launch) (Z : State) (a0 : Array Value) (G1 : Int32) (fm : Value) (hG : Glob Z a0 G1 fm) (ws : List Jvm.Cond) (p0 : Int32) (p1 : Int32) (p2 : Int32) (p3 : Int32) (p4 : Int32) (h0 : Heap) (n0 : Nat) (Z0 : n0 ≤ h0.size) (X00 : Old Z n0 h0) (hn : ((p0 &&& (2147483647 : Int32)) % (5 : Int32)) = (3 : Int32)) :
    MetFree l x (head1 (Jvm.Cond.code x code maxLocals ret :: ws) room_1) (fun a U => a = #[.int p0, .int p1, .int p2, .int p3, .int p4] ∧ Z.Warmed39 U.vm ∧ U.heap = h0 ∧ CHv Z own_EL U.vm h0) (fun _ _ _ _ _ => True) (fun _ U o U' => ∃ v L, o = .returned v ∧ Q0 Z G1 fm p0 p1 p2 p3 p4 h0 n0 v U'.heap L ∧ CHr Z own_EL U.vm U.heap U'.vm U'.heap ∧ ReturnedEndW U o U' L room_1.cells room_1.slots) := by
  obtain ⟨hw, O_cs, P_cs, O_as, O_hi, O_lo, O_fm, R_fm⟩ := id hG
  have W := @own_W _ _ hw
  refine MetFree.of_bodySF (plainFor_of_name pn_com_example_label_lattice_labellattice_RangeIsWrittenAsRangePinLaw) hisR ?_
  intro p e s m args below meth c s₁ Bd hml0 hP hK
  obtain ⟨rfl, hZ, hh, hCH⟩ := hP
  have hx := Bd.exec
  have hby := Bd.bytes
  have hB := @hb _ _ hby
  have hml : c.maxLocals = 12 := hml0
  have hown : s.vm.findClass "com/example/label_lattice/labellattice/RangeIsWrittenAsRangePinLaw" = some m.cls := findClass_of_methodNamed Bd.named
  have hnm := (name_of_methodNamed Bd.named Bd.method).1
  have X0 : Stand p l e room_1 (s.setVm s.vm) m #[.int p0, .int p1, .int p2, .int p3, .int p4] below meth c s₁ [] 0 0 := Stand.of_body Bd
  have e0 : s₁.heap = h0 := by rw [← hh, Bd.state]; rfl
  have hS0 : s.Since s.vm h0.size := (State.WarmedH.refl s).since _
  have hk0 : h0.size ≤ h0.size := Nat.le_refl _
  have R0 : CHr Z own_EL s.vm h0 s.vm h0 := CHr.refl hCH
  have hEL := own_ew hw
  have N0 := Fr.nil n0
  have pre0 : ∀ t, Steps p.tables e below (s₁.setTop (mkF m 0 #[.val (.int p0), .val (.int p1), .val (.int p2), .val (.int p3), .val (.int p4), .unset, .unset, .unset, .unset, .unset, .unset, .unset] [])) t → Steps p.tables e below (s₁.setTop (entryFrame m #[.int p0, .int p1, .int p2, .int p3, .int p4] maxLocals)) t := fun t kk_ => castTop (ef_code_IIIII m p0 p1 p2 p3 p4) kk_
  -- pc 9: com/example/label_lattice/labellattice/RangeIsWrittenAsRangePinLaw.ch
  obtain ⟨_, _, ⟨T615, L615, k615, n615⟩, -, X615, ⟨Lc615, hQ615, l615, y615, z615⟩, st615⟩ := Jvm.LawKit.callS X0 hx (y := y28) hown (mvT hZ (W 1 rfl)) (mvT hZ (W 2 rfl)) (mvT hZ (W 3 rfl)) (mvT hZ (W 4 rfl)) (by decide) (backOf (W := 0) (rmch l Z a0 G1 fm hG [] p1 h0 n0 Z0 X00) hZ (W 4 rfl) (W 3 rfl) (by decide) (by decide)) (g := (mkF m 9 #[.val (.int p0), .val (.int p1), .val (.int p2), .val (.int p3), .val (.int p4), .val (.int 3), .unset, .unset, .unset, .unset, .unset, .unset] [.int p1])) rfl (by rw [hml]; rfl) (argsL := [.int p1]) (rest := []) (lenOf pd__I_C rfl) rfl (by show 2 * 0 + _ ≤ _; exact Nat.le_of_eq rfl) (hB at_9) (fun _ _ => ⟨rfl, e0, (by decide : 0 + 0 ≤ _), (by decide : 0 + 0 ≤ _)⟩)
  dsimp only [Pt.U, Pt.locs, Pt.cells, Pt.slots] at X615 l615 y615 z615 st615 hQ615
  subst l615 y615 z615
  obtain ⟨r_615, rfl, N615q, eq615, f615_0⟩ := hQ615
  have N615 := Fr.app N0 N615q
  -- pc 15: com/example/label_lattice/labellattice/RangeIsWrittenAsRangePinLaw.ch
  obtain ⟨_, _, ⟨T616, L616, k616, n616⟩, -, X616, ⟨Lc616, hQ616, l616, y616, z616⟩, st616⟩ := Jvm.LawKit.callS X615 hx (y := y28) hown (mvT hZ (W 1 rfl)) (mvT hZ (W 2 rfl)) (mvT hZ (W 3 rfl)) (mvT hZ (W 4 rfl)) (by decide) (backOf (W := 0) (rmch l Z a0 G1 fm hG [] p2 h0 n0 Z0 X00) hZ (W 4 rfl) (W 3 rfl) (by decide) (by decide)) (g := (mkF m 15 #[.val (.int p0), .val (.int p1), .val (.int p2), .val (.int p3), .val (.int p4), .val (.int 3), .val (.int r_615), .unset, .unset, .unset, .unset, .unset] [.int p2])) rfl (by rw [hml]; rfl) (argsL := [.int p2]) (rest := []) (lenOf pd__I_C rfl) rfl (by show 2 * 0 + _ ≤ _; exact Nat.le_of_eq rfl) (hB at_15) (fun _ _ => ⟨rfl, eq615, (by decide : 0 + 0 ≤ _), (by decide : 0 + 0 ≤ _)⟩)
  dsimp only [Pt.U, Pt.locs, Pt.cells, Pt.slots] at X616 l616 y616 z616 st616 hQ616
  subst l616 y616 z616
  obtain ⟨r_616, rfl, N616q, eq616, f616_0⟩ := hQ616
  have N616 := Fr.app N615 N616q
  -- pc 21: com/example/label_lattice/labellattice/RangeIsWrittenAsRangePinLaw.ch
  obtain ⟨_, _, ⟨T617, L617, k617, n617⟩, -, X617, ⟨Lc617, hQ617, l617, y617, z617⟩, st617⟩ := Jvm.LawKit.callS X616 hx (y := y28) hown (mvT hZ (W 1 rfl)) (mvT hZ (W 2 rfl)) (mvT hZ (W 3 rfl)) (mvT hZ (W 4 rfl)) (by decide) (backOf (W := 0) (rmch l Z a0 G1 fm hG [] p3 h0 n0 Z0 X00) hZ (W 4 rfl) (W 3 rfl) (by decide) (by decide)) (g := (mkF m 21 #[.val (.int p0), .val (.int p1), .val (.int p2), .val (.int p3), .val (.int p4), .val (.int 3), .val (.int r_615), .val (.int r_616), .unset, .unset, .unset, .unset] [.int p3])) rfl (by rw [hml]; rfl) (argsL := [.int p3]) (rest := []) (lenOf pd__I_C rfl) rfl (by show 2 * 0 + _ ≤ _; exact Nat.le_of_eq rfl) (hB at_21) (fun _ _ => ⟨rfl, eq616, (by decide : 0 + 0 ≤ _), (by decide : 0 + 0 ≤ _)⟩)
  dsimp only [Pt.U, Pt.locs, Pt.cells, Pt.slots] at X617 l617 y617 z617 st617 hQ617
  subst l617 y617 z617
  obtain ⟨r_617, rfl, N617q, eq617, f617_0⟩ := hQ617
  have N617 := Fr.app N616 N617q
  -- pc 28: com/example/label_lattice/labellattice/RangeIsWrittenAsRangePinLaw.ch
  obtain ⟨_, _, ⟨T618, L618, k618, n618⟩, -, X618, ⟨Lc618, hQ618, l618, y618, z618⟩, st618⟩ := Jvm.LawKit.callS X617 hx (y := y28) hown (mvT hZ (W 1 rfl)) (mvT hZ (W 2 rfl)) (mvT hZ (W 3 rfl)) (mvT hZ (W 4 rfl)) (by decide) (backOf (W := 0) (rmch l Z a0 G1 fm hG [] p4 h0 n0 Z0 X00) hZ (W 4 rfl) (W 3 rfl) (by decide) (by decide)) (g := (mkF m 28 #[.val (.int p0), .val (.int p1), .val (.int p2), .val (.int p3), .val (.int p4), .val (.int 3), .val (.int r_615), .val (.int r_616), .val (.int r_617), .unset, .unset, .unset] [.int p4])) rfl (by rw [hml]; rfl) (argsL := [.int p4]) (rest := []) (lenOf pd__I_C rfl) rfl (by show 2 * 0 + _ ≤ _; exact Nat.le_of_eq rfl) (hB at_28) (fun _ _ => ⟨rfl, eq617, (by decide : 0 + 0 ≤ _), (by decide : 0 + 0 ≤ _)⟩)
  dsimp only [Pt.U, Pt.locs, Pt.cells, Pt.slots] at X618 l618 y618 z618 st618 hQ618
  subst l618 y618 z618
  obtain ⟨r_618, rfl, N618q, eq618, f618_0⟩ := hQ618
  have N618 := Fr.app N617 N618q
  -- pc 43: com/example/label_lattice/labellattice/RangeIsWrittenAsRangePinLaw.make
  obtain ⟨_, _, ⟨T619, L619, k619, n619⟩, -, X619, ⟨Lc619, hQ619, l619, y619, z619⟩, st619⟩ := Jvm.LawKit.callS X618 hx (y := y29) hown (mvT hZ (W 5 rfl)) (mvT hZ (W 6 rfl)) (mvT hZ (W 3 rfl)) (mvT hZ (W 7 rfl)) (by decide) (backOf (W := 0) (rmmk3 l Z a0 G1 fm hG [] r_615 r_616 r_617 r_618 h0 n0 Z0 X00 f615_0 f616_0 f617_0 f618_0) hZ (W 7 rfl) (W 3 rfl) (by decide) (by decide)) (g := (mkF m 43 #[.val (.int p0), .val (.int p1), .val (.int p2), .val (.int p3), .val (.int p4), .val (.int 3), .val (.int r_615), .val (.int r_616), .val (.int r_617), .val (.int r_618), .unset, .unset] [.int r_618, .int r_617, .int r_616, .int r_615, .int 3])) rfl (by rw [hml]; rfl) (argsL := [.int 3, .int r_615, .int r_616, .int r_617, .int r_618]) (rest := []) (lenOf pd__ICCCC_Ljava_lang_String_ rfl) rfl (by show 2 * 0 + _ ≤ _; exact Nat.le_of_eq rfl) (hB at_43) (fun _ _ => ⟨rfl, eq618, (by decide : 0 + 4 ≤ _), (by decide : 0 + 16 ≤ _)⟩)
  dsimp only [Pt.U, Pt.locs, Pt.cells, Pt.slots] at X619 l619 y619 z619 st619 hQ619
  subst l619 y619 z619
  obtain ⟨b_619, t_619, kb_619, cd_619, z_619, vs_619, rfl, N619q, K619, f619_0, f619_1, f619_2, f619_3, f619_4, f619_5⟩ := hQ619
  have N619 := Fr.app N618 N619q
  have Z620 : n0 ≤ T619.heap.size := Nat.le_trans Z0 K619.1
  have K0_620 : Keep h0 T619.heap [] := (Keep.refl h0 []).trans K619 all0
  have O620 : Old Z n0 T619.heap := X00.keep K619 all0
  have R620 : CHr Z own_EL s.vm h0 s.vm T619.heap := R0.trans (CHr.keep K619 sf0 R0.1)
  have hk620 : h0.size ≤ T619.heap.size := Nat.le_trans hk0 K619.1
  have lo_b_619 : h0.size ≤ b_619 := f619_0
  have g_b_619 : n0 ≤ b_619 := Nat.le_trans Z0 lo_b_619
  have l0_b_619 : h0.size ≤ b_619 := Nat.le_trans (Keep.refl h0 []).1 lo_b_619
  obtain ⟨T621, L621, X621, N621, K621, st621⟩ := sgexp Z a0 G1 fm hG p0 p1 p2 p3 p4 (3 : Int32) r_615 r_616 r_617 r_618 b_619 ([r_615, r_616, r_617] : List Int32) 4 16 T619.heap n0 Z620 O620 (Or.inr (Or.inr (Or.inr (Or.inl ⟨rfl, rfl⟩)))) X619 hx hZ hby hml hown rfl N619
  have Z622 : n0 ≤ T621.heap.size := Nat.le_trans Z620 K621.1
  have K0_622 : Keep h0 T621.heap [] := K0_620.trans K621 all0
  have O622 : Old Z n0 T621.heap := O620.keep K621 all0
  have R622 : CHr Z own_EL s.vm h0 s.vm T621.heap := R620.trans (CHr.keep K621 sf0 R620.1)
  have hk622 : h0.size ≤ T621.heap.size := Nat.le_trans hk620 K621.1
  have f624 := (f619_1.keep K621)
  have f625 := (f619_2.keep K621 nin0)
  have f626 := (f619_3.keep K621 nin0)
  have f627 := (f619_4.keep K621 nin0)
  -- pc 109: com/example/label_lattice/labellattice/Range.isWrittenAsRange
  obtain ⟨_, _, ⟨T623, L623, k623, n623⟩, -, X623, ⟨Lc623, hQ623, l623, y623, z623⟩, st623⟩ := Jvm.LawKit.callS X621 hx (y := y27) hown (mvT hZ (W 30 rfl)) (mvT hZ (W 31 rfl)) (mvT hZ (W 32 rfl)) (mvT hZ (W 33 rfl)) (by decide) (backOf (W := 0) (rmiw l Z a0 G1 fm hG [] b_619 t_619 kb_619 cd_619 z_619 vs_619 ([r_615, r_616, r_617] : List Int32) (3 : Int32) T621.heap n0 Z622 O622 f624 f625 f626 f627 f619_5 (own_ble rfl) (own_all3 f615_0 f616_0 f617_0) rfl) hZ (W 33 rfl) (W 32 rfl) (by decide) (by decide)) (g := (mkF m 109 #[.val (.int p0), .val (.int p1), .val (.int p2), .val (.int p3), .val (.int p4), .val (.int 3), .val (.int r_615), .val (.int r_616), .val (.int r_617), .val (.int r_618), .val (.ref b_619), .val (.int (own_has ([r_615, r_616, r_617] : List Int32)))] [.ref b_619])) rfl (by rw [hml]; rfl) (argsL := [.ref b_619]) (rest := []) (lenOf pd__Ljava_lang_String__Z rfl) rfl (by show 2 * 0 + _ ≤ _; exact Nat.le_of_eq rfl) (hB at_109) (fun _ _ => ⟨rfl, rfl, (by decide : 4 + 0 ≤ _), (by decide : 16 + 0 ≤ _)⟩)
  dsimp only [Pt.U, Pt.locs, Pt.cells, Pt.slots] at X623 l623 y623 z623 st623 hQ623
  subst l623 y623 z623
  obtain ⟨rfl, N623q, eq623⟩ := hQ623
  have N623 := Fr.app N621 N623q
  obtain ⟨fs, hr, hrun, hended, hend⟩ := Jvm.Stand.leaveW (v := some (.int 1)) X623 hS0 (by rw [eq623]; exact hk622) (fun h => by rw [Bd.returns] at h; cases h)
  have hFin := R622.trans (CHv.at X623 hZ hEL R622.1)
  refine ⟨_, _, pre0 _ ?_, hrun, hended, _, _, rfl, ?_, ?_, own_mono hend (own_ble rfl) (own_ble rfl)⟩
  · show Steps _ _ _ (s₁.setTop (mkF m 0 #[.val (.int p0), .val (.int p1), .val (.int p2), .val (.int p3), .val (.int p4), .unset, .unset, .unset, .unset, .unset, .unset, .unset] [])) _
    refine XS.iloadN X0.here hx rfl (hB at_0) rfl ?_
    refine X0.ldcInt hx hown (mvT hZ (W 0 rfl)) (g := (mkF m 1 #[.val (.int p0), .val (.int p1), .val (.int p2), .val (.int p3), .val (.int p4), .unset, .unset, .unset, .unset, .unset, .unset, .unset] [.int p0])) rfl (hB at_1) _ ?_
    refine XS.iand X0.here hx rfl (hB at_3) rfl ?_
    refine XS.iconst X0.here hx rfl (hB at_4) ?_
    refine iremM (g := (mkF m 5 #[.val (.int p0), .val (.int p1), .val (.int p2), .val (.int p3), .val (.int p4), .unset, .unset, .unset, .unset, .unset, .unset, .unset] [.int 5, (.int (p0 &&& (2147483647 : Int32)))])) X0 hx rfl (hB at_5) rfl (by decide) ?_
    show Steps _ _ _ (s₁.setTop (mkF m 6 #[.val (.int p0), .val (.int p1), .val (.int p2), .val (.int p3), .val (.int p4), .unset, .unset, .unset, .unset, .unset, .unset, .unset] [(.int ((p0 &&& (2147483647 : Int32)) % (5 : Int32)))])) _
    rw [hn]
    show Steps _ _ _ (s₁.setTop (mkF m 6 #[.val (.int p0), .val (.int p1), .val (.int p2), .val (.int p3), .val (.int p4), .unset, .unset, .unset, .unset, .unset, .unset, .unset] [.int 3])) _
    refine XS.istore X0.here hx rfl (hB at_6) rfl (l' := #[.val (.int p0), .val (.int p1), .val (.int p2), .val (.int p3), .val (.int p4), .val (.int 3), .unset, .unset, .unset, .unset, .unset, .unset]) rfl ?_
    refine XS.iloadN X0.here hx rfl (hB at_8) rfl ?_
    refine st615 _ ?_
    show Steps _ _ _ (T615.setTop (mkF m 12 #[.val (.int p0), .val (.int p1), .val (.int p2), .val (.int p3), .val (.int p4), .val (.int 3), .unset, .unset, .unset, .unset, .unset, .unset] [.int r_615])) _
    refine XS.istore X615.here hx rfl (hB at_12) rfl (l' := #[.val (.int p0), .val (.int p1), .val (.int p2), .val (.int p3), .val (.int p4), .val (.int 3), .val (.int r_615), .unset, .unset, .unset, .unset, .unset]) rfl ?_
    refine XS.iloadN X615.here hx rfl (hB at_14) rfl ?_
    refine st616 _ ?_
    show Steps _ _ _ (T616.setTop (mkF m 18 #[.val (.int p0), .val (.int p1), .val (.int p2), .val (.int p3), .val (.int p4), .val (.int 3), .val (.int r_615), .unset, .unset, .unset, .unset, .unset] [.int r_616])) _
    refine XS.istore X616.here hx rfl (hB at_18) rfl (l' := #[.val (.int p0), .val (.int p1), .val (.int p2), .val (.int p3), .val (.int p4), .val (.int 3), .val (.int r_615), .val (.int r_616), .unset, .unset, .unset, .unset]) rfl ?_
    refine XS.iloadN X616.here hx rfl (hB at_20) rfl ?_
    refine st617 _ ?_
    show Steps _ _ _ (T617.setTop (mkF m 24 #[.val (.int p0), .val (.int p1), .val (.int p2), .val (.int p3), .val (.int p4), .val (.int 3), .val (.int r_615), .val (.int r_616), .unset, .unset, .unset, .unset] [.int r_617])) _
    refine XS.istore X617.here hx rfl (hB at_24) rfl (l' := #[.val (.int p0), .val (.int p1), .val (.int p2), .val (.int p3), .val (.int p4), .val (.int 3), .val (.int r_615), .val (.int r_616), .val (.int r_617), .unset, .unset, .unset]) rfl ?_
    refine XS.iload X617.here hx rfl (hB at_26) rfl ?_
    refine st618 _ ?_
    show Steps _ _ _ (T618.setTop (mkF m 31 #[.val (.int p0), .val (.int p1), .val (.int p2), .val (.int p3), .val (.int p4), .val (.int 3), .val (.int r_615), .val (.int r_616), .val (.int r_617), .unset, .unset, .unset] [.int r_618])) _
    refine XS.istore X618.here hx rfl (hB at_31) rfl (l' := #[.val (.int p0), .val (.int p1), .val (.int p2), .val (.int p3), .val (.int p4), .val (.int 3), .val (.int r_615), .val (.int r_616), .val (.int r_617), .val (.int r_618), .unset, .unset]) rfl ?_
    refine XS.iload X618.here hx rfl (hB at_33) rfl ?_
    refine XS.iload X618.here hx rfl (hB at_35) rfl ?_
    refine XS.iload X618.here hx rfl (hB at_37) rfl ?_
    refine XS.iload X618.here hx rfl (hB at_39) rfl ?_
    refine XS.iload X618.here hx rfl (hB at_41) rfl ?_
    refine st619 _ ?_
    show Steps _ _ _ (T619.setTop (mkF m 46 #[.val (.int p0), .val (.int p1), .val (.int p2), .val (.int p3), .val (.int p4), .val (.int 3), .val (.int r_615), .val (.int r_616), .val (.int r_617), .val (.int r_618), .unset, .unset] [.ref b_619])) _
    refine XS.astore X619.here hx rfl (hB at_46) rfl rfl (l' := #[.val (.int p0), .val (.int p1), .val (.int p2), .val (.int p3), .val (.int p4), .val (.int 3), .val (.int r_615), .val (.int r_616), .val (.int r_617), .val (.int r_618), .val (.ref b_619), .unset]) rfl ?_
    show Steps _ _ _ (T619.setTop (mkF m 48 #[.val (.int p0), .val (.int p1), .val (.int p2), .val (.int p3), .val (.int p4), .val (.int 3), .val (.int r_615), .val (.int r_616), .val (.int r_617), .val (.int r_618), .val (.ref b_619), .unset] [])) _
    refine st621 _ ?_
    show Steps _ _ _ (T621.setTop (mkF m 105 #[.val (.int p0), .val (.int p1), .val (.int p2), .val (.int p3), .val (.int p4), .val (.int 3), .val (.int r_615), .val (.int r_616), .val (.int r_617), .val (.int r_618), .val (.ref b_619), .unset] [(.int (own_has ([r_615, r_616, r_617] : List Int32)))])) _
    refine XS.istore X621.here hx rfl (hB at_105) rfl (l' := #[.val (.int p0), .val (.int p1), .val (.int p2), .val (.int p3), .val (.int p4), .val (.int 3), .val (.int r_615), .val (.int r_616), .val (.int r_617), .val (.int r_618), .val (.ref b_619), .val (.int (own_has ([r_615, r_616, r_617] : List Int32)))]) rfl ?_
    refine XS.aload X621.here hx rfl (hB at_107) rfl rfl ?_
    refine st623 _ ?_
    show Steps _ _ _ (T623.setTop (mkF m 112 #[.val (.int p0), .val (.int p1), .val (.int p2), .val (.int p3), .val (.int p4), .val (.int 3), .val (.int r_615), .val (.int r_616), .val (.int r_617), .val (.int r_618), .val (.ref b_619), .val (.int (own_has ([r_615, r_616, r_617] : List Int32)))] [(.int (own_has ([r_615, r_616, r_617] : List Int32)))])) _
    refine XS.iload X623.here hx rfl (hB at_112) rfl ?_
    refine XS.icmpNo X623.here hx rfl (hB at_114) rfl (teq (rfl : (own_has ([r_615, r_616, r_617] : List Int32)) = (own_has ([r_615, r_616, r_617] : List Int32)))).2 ?_
    refine XS.iconst X623.here hx rfl (hB at_117) ?_
    refine XS.goto X623.here hx rfl (pc0 := 118) (pc' := 122) rfl (hB at_118) (by decide) (by decide) ?_
    exact retN X623 hx (t := .boolean) Bd.returns (by simp) (hB at_122) hr
  · show Q0 Z G1 fm p0 p1 p2 p3 p4 h0 n0 _ T623.heap _
    rw [eq623]
    exact ⟨rfl, N623, K0_622⟩
  · show CHr Z own_EL s.vm s.heap T623.vm T623.heap
    rw [hh, eq623]
    exact hFin
theorem rm0_4 (l : Launch) (Z : State) (a0 : Array Value) (G1 : Int32) (fm : Value) (hG : Glob Z a0 G1 fm) (ws : List Jvm.Cond) (p0 : Int32) (p1 : Int32) (p2 : Int32) (p3 : Int32) (p4 : Int32) (h0 : Heap) (n0 : Nat) (Z0 : n0 ≤ h0.size) (X00 : Old Z n0 h0) (hn : ((p0 &&& (2147483647 : Int32)) % (5 : Int32)) = (4 : Int32)) :
    MetFree l x (head1 (Jvm.Cond.code x code maxLocals ret :: ws) room_1) (fun a U => a = #[.int p0, .int p1, .int p2, .int p3, .int p4] ∧ Z.Warmed39 U.vm ∧ U.heap = h0 ∧ CHv Z own_EL U.vm h0) (fun _ _ _ _ _ => True) (fun _ U o U' => ∃ v L, o = .returned v ∧ Q0 Z G1 fm p0 p1 p2 p3 p4 h0 n0 v U'.heap L ∧ CHr Z own_EL U.vm U.heap U'.vm U'.heap ∧ ReturnedEndW U o U' L room_1.cells room_1.slots) := by
  obtain ⟨hw, O_cs, P_cs, O_as, O_hi, O_lo, O_fm, R_fm⟩ := id hG
  have W := @own_W _ _ hw
  refine MetFree.of_bodySF (plainFor_of_name pn_com_example_label_lattice_labellattice_RangeIsWrittenAsRangePinLaw) hisR ?_
  intro p e s m args below meth c s₁ Bd hml0 hP hK
  obtain ⟨rfl, hZ, hh, hCH⟩ := hP
  have hx := Bd.exec
  have hby := Bd.bytes
  have hB := @hb _ _ hby
  have hml : c.maxLocals = 12 := hml0
  have hown : s.vm.findClass "com/example/label_lattice/labellattice/RangeIsWrittenAsRangePinLaw" = some m.cls := findClass_of_methodNamed Bd.named
  have hnm := (name_of_methodNamed Bd.named Bd.method).1
  have X0 : Stand p l e room_1 (s.setVm s.vm) m #[.int p0, .int p1, .int p2, .int p3, .int p4] below meth c s₁ [] 0 0 := Stand.of_body Bd
  have e0 : s₁.heap = h0 := by rw [← hh, Bd.state]; rfl
  have hS0 : s.Since s.vm h0.size := (State.WarmedH.refl s).since _
  have hk0 : h0.size ≤ h0.size := Nat.le_refl _
  have R0 : CHr Z own_EL s.vm h0 s.vm h0 := CHr.refl hCH
  have hEL := own_ew hw
  have N0 := Fr.nil n0
  have pre0 : ∀ t, Steps p.tables e below (s₁.setTop (mkF m 0 #[.val (.int p0), .val (.int p1), .val (.int p2), .val (.int p3), .val (.int p4), .unset, .unset, .unset, .unset, .unset, .unset, .unset] [])) t → Steps p.tables e below (s₁.setTop (entryFrame m #[.int p0, .int p1, .int p2, .int p3, .int p4] maxLocals)) t := fun t kk_ => castTop (ef_code_IIIII m p0 p1 p2 p3 p4) kk_
  -- pc 9: com/example/label_lattice/labellattice/RangeIsWrittenAsRangePinLaw.ch
  obtain ⟨_, _, ⟨T628, L628, k628, n628⟩, -, X628, ⟨Lc628, hQ628, l628, y628, z628⟩, st628⟩ := Jvm.LawKit.callS X0 hx (y := y28) hown (mvT hZ (W 1 rfl)) (mvT hZ (W 2 rfl)) (mvT hZ (W 3 rfl)) (mvT hZ (W 4 rfl)) (by decide) (backOf (W := 0) (rmch l Z a0 G1 fm hG [] p1 h0 n0 Z0 X00) hZ (W 4 rfl) (W 3 rfl) (by decide) (by decide)) (g := (mkF m 9 #[.val (.int p0), .val (.int p1), .val (.int p2), .val (.int p3), .val (.int p4), .val (.int 4), .unset, .unset, .unset, .unset, .unset, .unset] [.int p1])) rfl (by rw [hml]; rfl) (argsL := [.int p1]) (rest := []) (lenOf pd__I_C rfl) rfl (by show 2 * 0 + _ ≤ _; exact Nat.le_of_eq rfl) (hB at_9) (fun _ _ => ⟨rfl, e0, (by decide : 0 + 0 ≤ _), (by decide : 0 + 0 ≤ _)⟩)
  dsimp only [Pt.U, Pt.locs, Pt.cells, Pt.slots] at X628 l628 y628 z628 st628 hQ628
  subst l628 y628 z628
  obtain ⟨r_628, rfl, N628q, eq628, f628_0⟩ := hQ628
  have N628 := Fr.app N0 N628q
  -- pc 15: com/example/label_lattice/labellattice/RangeIsWrittenAsRangePinLaw.ch
  obtain ⟨_, _, ⟨T629, L629, k629, n629⟩, -, X629, ⟨Lc629, hQ629, l629, y629, z629⟩, st629⟩ := Jvm.LawKit.callS X628 hx (y := y28) hown (mvT hZ (W 1 rfl)) (mvT hZ (W 2 rfl)) (mvT hZ (W 3 rfl)) (mvT hZ (W 4 rfl)) (by decide) (backOf (W := 0) (rmch l Z a0 G1 fm hG [] p2 h0 n0 Z0 X00) hZ (W 4 rfl) (W 3 rfl) (by decide) (by decide)) (g := (mkF m 15 #[.val (.int p0), .val (.int p1), .val (.int p2), .val (.int p3), .val (.int p4), .val (.int 4), .val (.int r_628), .unset, .unset, .unset, .unset, .unset] [.int p2])) rfl (by rw [hml]; rfl) (argsL := [.int p2]) (rest := []) (lenOf pd__I_C rfl) rfl (by show 2 * 0 + _ ≤ _; exact Nat.le_of_eq rfl) (hB at_15) (fun _ _ => ⟨rfl, eq628, (by decide : 0 + 0 ≤ _), (by decide : 0 + 0 ≤ _)⟩)
  dsimp only [Pt.U, Pt.locs, Pt.cells, Pt.slots] at X629 l629 y629 z629 st629 hQ629
  subst l629 y629 z629
  obtain ⟨r_629, rfl, N629q, eq629, f629_0⟩ := hQ629
  have N629 := Fr.app N628 N629q
  -- pc 21: com/example/label_lattice/labellattice/RangeIsWrittenAsRangePinLaw.ch
  obtain ⟨_, _, ⟨T630, L630, k630, n630⟩, -, X630, ⟨Lc630, hQ630, l630, y630, z630⟩, st630⟩ := Jvm.LawKit.callS X629 hx (y := y28) hown (mvT hZ (W 1 rfl)) (mvT hZ (W 2 rfl)) (mvT hZ (W 3 rfl)) (mvT hZ (W 4 rfl)) (by decide) (backOf (W := 0) (rmch l Z a0 G1 fm hG [] p3 h0 n0 Z0 X00) hZ (W 4 rfl) (W 3 rfl) (by decide) (by decide)) (g := (mkF m 21 #[.val (.int p0), .val (.int p1), .val (.int p2), .val (.int p3), .val (.int p4), .val (.int 4), .val (.int r_628), .val (.int r_629), .unset, .unset, .unset, .unset] [.int p3])) rfl (by rw [hml]; rfl) (argsL := [.int p3]) (rest := []) (lenOf pd__I_C rfl) rfl (by show 2 * 0 + _ ≤ _; exact Nat.le_of_eq rfl) (hB at_21) (fun _ _ => ⟨rfl, eq629, (by decide : 0 + 0 ≤ _), (by decide : 0 + 0 ≤ _)⟩)
  dsimp only [Pt.U, Pt.locs, Pt.cells, Pt.slots] at X630 l630 y630 z630 st630 hQ630
  subst l630 y630 z630
  obtain ⟨r_630, rfl, N630q, eq630, f630_0⟩ := hQ630
  have N630 := Fr.app N629 N630q
  -- pc 28: com/example/label_lattice/labellattice/RangeIsWrittenAsRangePinLaw.ch
  obtain ⟨_, _, ⟨T631, L631, k631, n631⟩, -, X631, ⟨Lc631, hQ631, l631, y631, z631⟩, st631⟩ := Jvm.LawKit.callS X630 hx (y := y28) hown (mvT hZ (W 1 rfl)) (mvT hZ (W 2 rfl)) (mvT hZ (W 3 rfl)) (mvT hZ (W 4 rfl)) (by decide) (backOf (W := 0) (rmch l Z a0 G1 fm hG [] p4 h0 n0 Z0 X00) hZ (W 4 rfl) (W 3 rfl) (by decide) (by decide)) (g := (mkF m 28 #[.val (.int p0), .val (.int p1), .val (.int p2), .val (.int p3), .val (.int p4), .val (.int 4), .val (.int r_628), .val (.int r_629), .val (.int r_630), .unset, .unset, .unset] [.int p4])) rfl (by rw [hml]; rfl) (argsL := [.int p4]) (rest := []) (lenOf pd__I_C rfl) rfl (by show 2 * 0 + _ ≤ _; exact Nat.le_of_eq rfl) (hB at_28) (fun _ _ => ⟨rfl, eq630, (by decide : 0 + 0 ≤ _), (by decide : 0 + 0 ≤ _)⟩)
  dsimp only [Pt.U, Pt.locs, Pt.cells, Pt.slots] at X631 l631 y631 z631 st631 hQ631
  subst l631 y631 z631
  obtain ⟨r_631, rfl, N631q, eq631, f631_0⟩ := hQ631
  have N631 := Fr.app N630 N631q
  -- pc 43: com/example/label_lattice/labellattice/RangeIsWrittenAsRangePinLaw.make
  obtain ⟨_, _, ⟨T632, L632, k632, n632⟩, -, X632, ⟨Lc632, hQ632, l632, y632, z632⟩, st632⟩ := Jvm.LawKit.callS X631 hx (y := y29) hown (mvT hZ (W 5 rfl)) (mvT hZ (W 6 rfl)) (mvT hZ (W 3 rfl)) (mvT hZ (W 7 rfl)) (by decide) (backOf (W := 0) (rmmk4 l Z a0 G1 fm hG [] r_628 r_629 r_630 r_631 h0 n0 Z0 X00 f628_0 f629_0 f630_0 f631_0) hZ (W 7 rfl) (W 3 rfl) (by decide) (by decide)) (g := (mkF m 43 #[.val (.int p0), .val (.int p1), .val (.int p2), .val (.int p3), .val (.int p4), .val (.int 4), .val (.int r_628), .val (.int r_629), .val (.int r_630), .val (.int r_631), .unset, .unset] [.int r_631, .int r_630, .int r_629, .int r_628, .int 4])) rfl (by rw [hml]; rfl) (argsL := [.int 4, .int r_628, .int r_629, .int r_630, .int r_631]) (rest := []) (lenOf pd__ICCCC_Ljava_lang_String_ rfl) rfl (by show 2 * 0 + _ ≤ _; exact Nat.le_of_eq rfl) (hB at_43) (fun _ _ => ⟨rfl, eq631, (by decide : 0 + 4 ≤ _), (by decide : 0 + 20 ≤ _)⟩)
  dsimp only [Pt.U, Pt.locs, Pt.cells, Pt.slots] at X632 l632 y632 z632 st632 hQ632
  subst l632 y632 z632
  obtain ⟨b_632, t_632, kb_632, cd_632, z_632, vs_632, rfl, N632q, K632, f632_0, f632_1, f632_2, f632_3, f632_4, f632_5⟩ := hQ632
  have N632 := Fr.app N631 N632q
  have Z633 : n0 ≤ T632.heap.size := Nat.le_trans Z0 K632.1
  have K0_633 : Keep h0 T632.heap [] := (Keep.refl h0 []).trans K632 all0
  have O633 : Old Z n0 T632.heap := X00.keep K632 all0
  have R633 : CHr Z own_EL s.vm h0 s.vm T632.heap := R0.trans (CHr.keep K632 sf0 R0.1)
  have hk633 : h0.size ≤ T632.heap.size := Nat.le_trans hk0 K632.1
  have lo_b_632 : h0.size ≤ b_632 := f632_0
  have g_b_632 : n0 ≤ b_632 := Nat.le_trans Z0 lo_b_632
  have l0_b_632 : h0.size ≤ b_632 := Nat.le_trans (Keep.refl h0 []).1 lo_b_632
  obtain ⟨T634, L634, X634, N634, K634, st634⟩ := sgexp Z a0 G1 fm hG p0 p1 p2 p3 p4 (4 : Int32) r_628 r_629 r_630 r_631 b_632 ([r_628, r_629, r_630, r_631] : List Int32) 4 20 T632.heap n0 Z633 O633 (Or.inr (Or.inr (Or.inr (Or.inr (⟨rfl, rfl⟩))))) X632 hx hZ hby hml hown rfl N632
  have Z635 : n0 ≤ T634.heap.size := Nat.le_trans Z633 K634.1
  have K0_635 : Keep h0 T634.heap [] := K0_633.trans K634 all0
  have O635 : Old Z n0 T634.heap := O633.keep K634 all0
  have R635 : CHr Z own_EL s.vm h0 s.vm T634.heap := R633.trans (CHr.keep K634 sf0 R633.1)
  have hk635 : h0.size ≤ T634.heap.size := Nat.le_trans hk633 K634.1
  have f637 := (f632_1.keep K634)
  have f638 := (f632_2.keep K634 nin0)
  have f639 := (f632_3.keep K634 nin0)
  have f640 := (f632_4.keep K634 nin0)
  -- pc 109: com/example/label_lattice/labellattice/Range.isWrittenAsRange
  obtain ⟨_, _, ⟨T636, L636, k636, n636⟩, -, X636, ⟨Lc636, hQ636, l636, y636, z636⟩, st636⟩ := Jvm.LawKit.callS X634 hx (y := y27) hown (mvT hZ (W 30 rfl)) (mvT hZ (W 31 rfl)) (mvT hZ (W 32 rfl)) (mvT hZ (W 33 rfl)) (by decide) (backOf (W := 0) (rmiw l Z a0 G1 fm hG [] b_632 t_632 kb_632 cd_632 z_632 vs_632 ([r_628, r_629, r_630, r_631] : List Int32) (4 : Int32) T634.heap n0 Z635 O635 f637 f638 f639 f640 f632_5 (own_ble rfl) (own_all4 f628_0 f629_0 f630_0 f631_0) rfl) hZ (W 33 rfl) (W 32 rfl) (by decide) (by decide)) (g := (mkF m 109 #[.val (.int p0), .val (.int p1), .val (.int p2), .val (.int p3), .val (.int p4), .val (.int 4), .val (.int r_628), .val (.int r_629), .val (.int r_630), .val (.int r_631), .val (.ref b_632), .val (.int (own_has ([r_628, r_629, r_630, r_631] : List Int32)))] [.ref b_632])) rfl (by rw [hml]; rfl) (argsL := [.ref b_632]) (rest := []) (lenOf pd__Ljava_lang_String__Z rfl) rfl (by show 2 * 0 + _ ≤ _; exact Nat.le_of_eq rfl) (hB at_109) (fun _ _ => ⟨rfl, rfl, (by decide : 4 + 0 ≤ _), (by decide : 20 + 0 ≤ _)⟩)
  dsimp only [Pt.U, Pt.locs, Pt.cells, Pt.slots] at X636 l636 y636 z636 st636 hQ636
  subst l636 y636 z636
  obtain ⟨rfl, N636q, eq636⟩ := hQ636
  have N636 := Fr.app N634 N636q
  obtain ⟨fs, hr, hrun, hended, hend⟩ := Jvm.Stand.leaveW (v := some (.int 1)) X636 hS0 (by rw [eq636]; exact hk635) (fun h => by rw [Bd.returns] at h; cases h)
  have hFin := R635.trans (CHv.at X636 hZ hEL R635.1)
  refine ⟨_, _, pre0 _ ?_, hrun, hended, _, _, rfl, ?_, ?_, own_mono hend (own_ble rfl) (own_ble rfl)⟩
  · show Steps _ _ _ (s₁.setTop (mkF m 0 #[.val (.int p0), .val (.int p1), .val (.int p2), .val (.int p3), .val (.int p4), .unset, .unset, .unset, .unset, .unset, .unset, .unset] [])) _
    refine XS.iloadN X0.here hx rfl (hB at_0) rfl ?_
    refine X0.ldcInt hx hown (mvT hZ (W 0 rfl)) (g := (mkF m 1 #[.val (.int p0), .val (.int p1), .val (.int p2), .val (.int p3), .val (.int p4), .unset, .unset, .unset, .unset, .unset, .unset, .unset] [.int p0])) rfl (hB at_1) _ ?_
    refine XS.iand X0.here hx rfl (hB at_3) rfl ?_
    refine XS.iconst X0.here hx rfl (hB at_4) ?_
    refine iremM (g := (mkF m 5 #[.val (.int p0), .val (.int p1), .val (.int p2), .val (.int p3), .val (.int p4), .unset, .unset, .unset, .unset, .unset, .unset, .unset] [.int 5, (.int (p0 &&& (2147483647 : Int32)))])) X0 hx rfl (hB at_5) rfl (by decide) ?_
    show Steps _ _ _ (s₁.setTop (mkF m 6 #[.val (.int p0), .val (.int p1), .val (.int p2), .val (.int p3), .val (.int p4), .unset, .unset, .unset, .unset, .unset, .unset, .unset] [(.int ((p0 &&& (2147483647 : Int32)) % (5 : Int32)))])) _
    rw [hn]
    show Steps _ _ _ (s₁.setTop (mkF m 6 #[.val (.int p0), .val (.int p1), .val (.int p2), .val (.int p3), .val (.int p4), .unset, .unset, .unset, .unset, .unset, .unset, .unset] [.int 4])) _
    refine XS.istore X0.here hx rfl (hB at_6) rfl (l' := #[.val (.int p0), .val (.int p1), .val (.int p2), .val (.int p3), .val (.int p4), .val (.int 4), .unset, .unset, .unset, .unset, .unset, .unset]) rfl ?_
    refine XS.iloadN X0.here hx rfl (hB at_8) rfl ?_
    refine st628 _ ?_
    show Steps _ _ _ (T628.setTop (mkF m 12 #[.val (.int p0), .val (.int p1), .val (.int p2), .val (.int p3), .val (.int p4), .val (.int 4), .unset, .unset, .unset, .unset, .unset, .unset] [.int r_628])) _
    refine XS.istore X628.here hx rfl (hB at_12) rfl (l' := #[.val (.int p0), .val (.int p1), .val (.int p2), .val (.int p3), .val (.int p4), .val (.int 4), .val (.int r_628), .unset, .unset, .unset, .unset, .unset]) rfl ?_
    refine XS.iloadN X628.here hx rfl (hB at_14) rfl ?_
    refine st629 _ ?_
    show Steps _ _ _ (T629.setTop (mkF m 18 #[.val (.int p0), .val (.int p1), .val (.int p2), .val (.int p3), .val (.int p4), .val (.int 4), .val (.int r_628), .unset, .unset, .unset, .unset, .unset] [.int r_629])) _
    refine XS.istore X629.here hx rfl (hB at_18) rfl (l' := #[.val (.int p0), .val (.int p1), .val (.int p2), .val (.int p3), .val (.int p4), .val (.int 4), .val (.int r_628), .val (.int r_629), .unset, .unset, .unset, .unset]) rfl ?_
    refine XS.iloadN X629.here hx rfl (hB at_20) rfl ?_
    refine st630 _ ?_
    show Steps _ _ _ (T630.setTop (mkF m 24 #[.val (.int p0), .val (.int p1), .val (.int p2), .val (.int p3), .val (.int p4), .val (.int 4), .val (.int r_628), .val (.int r_629), .unset, .unset, .unset, .unset] [.int r_630])) _
    refine XS.istore X630.here hx rfl (hB at_24) rfl (l' := #[.val (.int p0), .val (.int p1), .val (.int p2), .val (.int p3), .val (.int p4), .val (.int 4), .val (.int r_628), .val (.int r_629), .val (.int r_630), .unset, .unset, .unset]) rfl ?_
    refine XS.iload X630.here hx rfl (hB at_26) rfl ?_
    refine st631 _ ?_
    show Steps _ _ _ (T631.setTop (mkF m 31 #[.val (.int p0), .val (.int p1), .val (.int p2), .val (.int p3), .val (.int p4), .val (.int 4), .val (.int r_628), .val (.int r_629), .val (.int r_630), .unset, .unset, .unset] [.int r_631])) _
    refine XS.istore X631.here hx rfl (hB at_31) rfl (l' := #[.val (.int p0), .val (.int p1), .val (.int p2), .val (.int p3), .val (.int p4), .val (.int 4), .val (.int r_628), .val (.int r_629), .val (.int r_630), .val (.int r_631), .unset, .unset]) rfl ?_
    refine XS.iload X631.here hx rfl (hB at_33) rfl ?_
    refine XS.iload X631.here hx rfl (hB at_35) rfl ?_
    refine XS.iload X631.here hx rfl (hB at_37) rfl ?_
    refine XS.iload X631.here hx rfl (hB at_39) rfl ?_
    refine XS.iload X631.here hx rfl (hB at_41) rfl ?_
    refine st632 _ ?_
    show Steps _ _ _ (T632.setTop (mkF m 46 #[.val (.int p0), .val (.int p1), .val (.int p2), .val (.int p3), .val (.int p4), .val (.int 4), .val (.int r_628), .val (.int r_629), .val (.int r_630), .val (.int r_631), .unset, .unset] [.ref b_632])) _
    refine XS.astore X632.here hx rfl (hB at_46) rfl rfl (l' := #[.val (.int p0), .val (.int p1), .val (.int p2), .val (.int p3), .val (.int p4), .val (.int 4), .val (.int r_628), .val (.int r_629), .val (.int r_630), .val (.int r_631), .val (.ref b_632), .unset]) rfl ?_
    show Steps _ _ _ (T632.setTop (mkF m 48 #[.val (.int p0), .val (.int p1), .val (.int p2), .val (.int p3), .val (.int p4), .val (.int 4), .val (.int r_628), .val (.int r_629), .val (.int r_630), .val (.int r_631), .val (.ref b_632), .unset] [])) _
    refine st634 _ ?_
    show Steps _ _ _ (T634.setTop (mkF m 105 #[.val (.int p0), .val (.int p1), .val (.int p2), .val (.int p3), .val (.int p4), .val (.int 4), .val (.int r_628), .val (.int r_629), .val (.int r_630), .val (.int r_631), .val (.ref b_632), .unset] [(.int (own_has ([r_628, r_629, r_630, r_631] : List Int32)))])) _
    refine XS.istore X634.here hx rfl (hB at_105) rfl (l' := #[.val (.int p0), .val (.int p1), .val (.int p2), .val (.int p3), .val (.int p4), .val (.int 4), .val (.int r_628), .val (.int r_629), .val (.int r_630), .val (.int r_631), .val (.ref b_632), .val (.int (own_has ([r_628, r_629, r_630, r_631] : List Int32)))]) rfl ?_
    refine XS.aload X634.here hx rfl (hB at_107) rfl rfl ?_
    refine st636 _ ?_
    show Steps _ _ _ (T636.setTop (mkF m 112 #[.val (.int p0), .val (.int p1), .val (.int p2), .val (.int p3), .val (.int p4), .val (.int 4), .val (.int r_628), .val (.int r_629), .val (.int r_630), .val (.int r_631), .val (.ref b_632), .val (.int (own_has ([r_628, r_629, r_630, r_631] : List Int32)))] [(.int (own_has ([r_628, r_629, r_630, r_631] : List Int32)))])) _
    refine XS.iload X636.here hx rfl (hB at_112) rfl ?_
    refine XS.icmpNo X636.here hx rfl (hB at_114) rfl (teq (rfl : (own_has ([r_628, r_629, r_630, r_631] : List Int32)) = (own_has ([r_628, r_629, r_630, r_631] : List Int32)))).2 ?_
    refine XS.iconst X636.here hx rfl (hB at_117) ?_
    refine XS.goto X636.here hx rfl (pc0 := 118) (pc' := 122) rfl (hB at_118) (by decide) (by decide) ?_
    exact retN X636 hx (t := .boolean) Bd.returns (by simp) (hB at_122) hr
  · show Q0 Z G1 fm p0 p1 p2 p3 p4 h0 n0 _ T636.heap _
    rw [eq636]
    exact ⟨rfl, N636, K0_635⟩
  · show CHr Z own_EL s.vm s.heap T636.vm T636.heap
    rw [hh, eq636]
    exact hFin
theorem own_n5 (x : Int32) : ((x &&& (2147483647 : Int32)) % (5 : Int32)) = (0 : Int32) ∨ ((x &&& (2147483647 : Int32)) % (5 : Int32)) = (1 : Int32) ∨ ((x &&& (2147483647 : Int32)) % (5 : Int32)) = (2 : Int32) ∨ ((x &&& (2147483647 : Int32)) % (5 : Int32)) = (3 : Int32) ∨ ((x &&& (2147483647 : Int32)) % (5 : Int32)) = (4 : Int32) := by
  have m1 := c_mask x 2147483647 31 (by decide) (by decide)
  generalize x &&& (2147483647 : Int32) = y at m1 ⊢
  have h : (y % (5 : Int32)).toInt = y.toInt.tmod 5 := by rw [Int32.toInt_mod]; rfl
  have h0 : 0 ≤ y.toInt := by omega
  have h5 : (y % (5 : Int32)).toInt = y.toInt % 5 := by rw [h, Int.tmod_eq_emod_of_nonneg h0]
  have hd : (y % (5 : Int32)).toInt = 0 ∨ (y % (5 : Int32)).toInt = 1 ∨ (y % (5 : Int32)).toInt = 2 ∨ (y % (5 : Int32)).toInt = 3 ∨ (y % (5 : Int32)).toInt = 4 := by omega
  rcases hd with h | h | h | h | h
  · exact Or.inl (Int32.toInt_inj.mp h)
  · exact Or.inr (Or.inl (Int32.toInt_inj.mp h))
  · exact Or.inr (Or.inr (Or.inl (Int32.toInt_inj.mp h)))
  · exact Or.inr (Or.inr (Or.inr (Or.inl (Int32.toInt_inj.mp h))))
  · exact Or.inr (Or.inr (Or.inr (Or.inr (Int32.toInt_inj.mp h))))
theorem rm0 (l : Launch) (Z : State) (a0 : Array Value) (G1 : Int32) (fm : Value) (hG : Glob Z a0 G1 fm) (ws : List Jvm.Cond) (p0 : Int32) (p1 : Int32) (p2 : Int32) (p3 : Int32) (p4 : Int32) (h0 : Heap) (n0 : Nat) (Z0 : n0 ≤ h0.size) (X00 : Old Z n0 h0) :
    MetFree l x (head1 (Jvm.Cond.code x code maxLocals ret :: ws) room_1) (fun a U => a = #[.int p0, .int p1, .int p2, .int p3, .int p4] ∧ Z.Warmed39 U.vm ∧ U.heap = h0 ∧ CHv Z own_EL U.vm h0) (fun _ _ _ _ _ => True) (fun _ U o U' => ∃ v L, o = .returned v ∧ Q0 Z G1 fm p0 p1 p2 p3 p4 h0 n0 v U'.heap L ∧ CHr Z own_EL U.vm U.heap U'.vm U'.heap ∧ ReturnedEndW U o U' L room_1.cells room_1.slots) := by
  rcases own_n5 p0 with h | h | h | h | h
  · exact rm0_0 l Z a0 G1 fm hG ws p0 p1 p2 p3 p4 h0 n0 Z0 X00 h
  · exact rm0_1 l Z a0 G1 fm hG ws p0 p1 p2 p3 p4 h0 n0 Z0 X00 h
  · exact rm0_2 l Z a0 G1 fm hG ws p0 p1 p2 p3 p4 h0 n0 Z0 X00 h
  · exact rm0_3 l Z a0 G1 fm hG ws p0 p1 p2 p3 p4 h0 n0 Z0 X00 h
  · exact rm0_4 l Z a0 G1 fm hG ws p0 p1 p2 p3 p4 h0 n0 Z0 X00 h
theorem own_eqI {args : Array Value} {s : State} {t : Term} {k : Int32} (h : (Jvm.Cond.eq t (Term.int k)).value args s none s [] = some true) : t.eval args s none [] s = some (.int k) := by
  cases ev : t.eval args s none [] s with
  | none => simp [Cond.value, Term.eval, ev] at h
  | some v => cases v <;> first | (simp [Cond.value, Term.eval, ev] at h; done) | (simp [Cond.value, Term.eval, ev] at h; subst h; rfl)
theorem comes_1 {Post : Tables → Env → Array Value → State → Outcome → State → Prop} (hpost : ∀ tb e args s v u, (limb_1_1.after args s (.returned v) u = true ∧ limb_1_2.after args s (.returned v) u = true ∧ True) → ReturnedEndW s (.returned v) u (Jvm.fieldLocs frame_1_writes args s ++ Jvm.arrayLocs frame_1_arrays args s ++ Jvm.staticLocs frame_1_statics s) 24 1152 → Post tb e args s (.returned v) u) :
    ArmFor flags0 classFile x code maxLocals ret World_1 tables_1 room_1 Calls_1 rest_1 Pre_1 Post := by
  intro l hfl _ _ p e ha hc hk s m args below hf hA hF happ hP
  obtain ⟨hcalls, hrest, hpre⟩ := hP
  obtain ⟨-, -, -, hnamed, -, -, -, hat⟩ := (Spec.applies_iff hf).mp happ
  obtain ⟨hg, hn⟩ := and_e (Cond.before_iff.mp (show (Jvm.Cond.and given_1 narrow_1).before args s = true from hpre))
  obtain ⟨gc, gr0⟩ := and_e hg
  obtain ⟨ga0, gr1⟩ := and_e gr0
  obtain ⟨ga1, gr2⟩ := and_e gr1
  obtain ⟨ga2, gr3⟩ := and_e gr2
  obtain ⟨ga3, gr4⟩ := and_e gr3
  obtain ⟨w0, w1, w2, w3, w4, rfl⟩ : ∃ w0 w1 w2 w3 w4 : Value, args = #[w0, w1, w2, w3, w4] := by
    have hs : args.size = 5 := by simpa [Cond.value, given_1] using gc
    obtain ⟨L⟩ := args
    match L, hs with
    | [w0, w1, w2, w3, w4], _ => exact ⟨w0, w1, w2, w3, w4, rfl⟩
  have hw := fun d (hd : d ∈ tables_1) => atoms_spec (ws := Jvm.Cond.code x code maxLocals ret :: tables_1) hat d (List.mem_cons_of_mem _ hd)
  have hfit : Fit s := fun {y c} hc i hi => by
    obtain ⟨ha, rfl⟩ := Array.getElem?_eq_some_iff.mp hc
    have q := List.all_eq_true.mp ((Array.all_eq_true_iff_forall_mem.mp hF) _ (Array.getElem_mem ha)) i (List.mem_range.mpr hi)
    simpa [Array.getElem?_eq_getElem hi] using q
  obtain ⟨hsets, hown0⟩ := atoms_of _ (rest_1_c_eq ▸ (show rest_1_c.before _ s = true from hrest))
  obtain ⟨i0, ei0⟩ := is_v ga0
  obtain rfl : w0 = (.int i0) := Option.some.inj ei0
  obtain ⟨i1, ei1⟩ := is_v ga1
  obtain rfl : w1 = (.int i1) := Option.some.inj ei1
  obtain ⟨i2, ei2⟩ := is_v ga2
  obtain rfl : w2 = (.int i2) := Option.some.inj ei2
  obtain ⟨i3, ei3⟩ := is_v ga3
  obtain rfl : w3 = (.int i3) := Option.some.inj ei3
  obtain ⟨i4, ei4⟩ := is_v gr4
  obtain rfl : w4 = (.int i4) := Option.some.inj ei4
  have W : ∀ (i : Nat) {d : Jvm.Cond}, tables_1[i]? = some d → d.before _ s = true := fun i d h => hw d (List.mem_of_getElem? h)
  obtain ⟨G, eG⟩ := is_v (Cond.before_iff.mp (hsets _ (List.mem_of_getElem? (i := 1) rfl)))
  have nG := not_v (Cond.before_iff.mp (hsets _ (List.mem_of_getElem? (i := 2) rfl)))
  have SG : Sta s s.heap "java/lang/String" "COMPACT_STRINGS" "Z" (.int G) := Sta.start eG (Or.inl (hsets _ (List.mem_of_getElem? (i := 0) rfl)))
  have cG : ¬ (G = (0 : Int32)) := gotF (Cond.eq_ints eG (Term.int_eval (0))) nG
  have Sas : Sta s s.heap "java/lang/StringUTF16" "$assertionsDisabled" "Z" (.int 1) := Sta.start (own_eqI (Cond.before_iff.mp (hsets _ (List.mem_of_getElem? (i := 12) rfl)))) (Or.inl (hsets _ (List.mem_of_getElem? (i := 11) rfl)))
  have Shi : Sta s s.heap "java/lang/StringUTF16" "HI_BYTE_SHIFT" "I" (.int 0) := Sta.start (own_eqI (Cond.before_iff.mp (hsets _ (List.mem_of_getElem? (i := 15) rfl)))) (Or.inl (hsets _ (List.mem_of_getElem? (i := 14) rfl)))
  have Slo : Sta s s.heap "java/lang/StringUTF16" "LO_BYTE_SHIFT" "I" (.int 8) := Sta.start (own_eqI (Cond.before_iff.mp (hsets _ (List.mem_of_getElem? (i := 18) rfl)))) (Or.inl (hsets _ (List.mem_of_getElem? (i := 17) rfl)))
  obtain ⟨fm, efm, rfm⟩ := isR_v (Cond.before_iff.mp (hsets _ (List.mem_of_getElem? (i := 8) rfl)))
  have Sfm : Sta s s.heap "jdk/internal/util/Preconditions" "SIOOBE_FORMATTER" "Ljava/util/function/BiFunction;" fm := Sta.start efm (Or.inl (hsets _ (List.mem_of_getElem? (i := 7) rfl)))
  have own_held : ∀ p ∈ own_EL, Jvm.Lit.constHeld s p.1 p.2 := fun p hp => hcalls.1 p ((by decide : ∀ p ∈ own_EL, p ∈ consts_1) p hp)
  have hG : Glob s _ G fm := ⟨hw, SG, cG, Sas, Shi, Slo, Sfm, rfm⟩
  have hCH : CHv s own_EL s.vm s.heap := CHv.start (own_ew hw) own_held (hsets _ (List.mem_of_getElem? (i := 2) rfl)) (W 23 rfl) (W 9 rfl)
  obtain ⟨n, o, h1, h2, h3, _, L, rfl, ⟨rfl, N, -⟩, -, hq⟩ := rm0 l s _ G fm hG tables_1 i0 i1 i2 i3 i4 s.heap s.heap.size (Nat.le_refl _) (Old.start s) p e ha hc hk s m _ below hf ((Spec.applies_iff_loose hf).mp happ).1 ⟨rfl, State.Warmed39.refl s, rfl, hCH⟩ trivial
  refine ⟨n, _, h1, h2, h3, hpost _ _ _ _ _ _ ⟨Cond.after_iff.mpr rfl, Cond.after_iff.mpr (eq_i res_at (Term.int_eval (1)) rfl), trivial⟩ ⟨hq.1, hq.2.1, hq.2.2.1, (hq.2.2.2.sift fun y hy => Or.inr (N y hy)).mono (by decide) (by decide)⟩⟩
theorem main_1_1 : Claimed_1_1 := comes_1 fun _ _ _ _ _ _ h hF => ⟨h.1, hF⟩
theorem main_1_2 : Claimed_1_2 := comes_1 fun _ _ _ _ _ _ h hF => ⟨h.2.1, hF⟩
end Jvm.Pilot.@@N@@
namespace Jvm.Pilot.@@N@@
open Jvm Jvm.ClassFile Sem Op Lib Jvm.Free Jvm.Stand Jvm.Pilot.@@N@@.Jvm.D
/-! MADE BY PROGRAM (witnessworld.py) out of the Statement's table words and the real class files: 22 classes; the members and pool entries that the words name. The judged class is class 1, her method 3. -/
namespace start1
open Jvm.ClassFile
def u (s : String) : CpInfo := .utf8 (stringToUtf16 s)
/-- a pool by its gaps: so many unusable entries, then the entry; so many at the end -/
def gap : Nat → List CpInfo → List CpInfo
  | 0, r => r
  | n + 1, r => .unusable :: gap n r
def poolList (es : List (Nat × CpInfo)) (last : Nat) : List CpInfo := es.foldr (fun e r => gap e.1 (e.2 :: r)) (gap last [])
def pool (es : List (Nat × CpInfo)) (last : Nat) : Array CpInfo := ⟨poolList es last⟩
def fileOf (pool : Array CpInfo) (this : Nat) (attrs : Array Attribute := #[]) (ms : Array MethodInfo := #[]) (fl : Nat := 33) (sup : Nat := 0) (ifs : Array Nat := #[]) (fds : Array FieldInfo := #[]) : ClassFile where
  minorVersion := 0
  majorVersion := 65
  constantPool := pool
  accessFlags := fl
  thisClass := this
  superClass := sup
  interfaces := ifs
  fields := fds
  methods := ms
  attributes := attrs
def plain (name : String) (sup : Option ClassId) : Class where
  name := name
  kind := .ordinary
  loader := none
  accessFlags := 33
  super := sup
  interfaces := #[]
  cf := none
  fields := #[]
  methods := #[]
  instanceTypes := #[]
  staticTypes := #[]
  resolved := #[]
  callSites := []
  init := .initialized
  statics := none
  mirror := none

def pool0 : Array CpInfo := pool [(5, u "<init>"), (0, u "()V"), (1, .class_ 10), (1, u "java/lang/Object")] 113

def k0c0 : Code := { maxStack := 0, maxLocals := 1, code := object_method_1_code, exceptionTable := #[], attributes := #[] }
def k0m0 : Method := { name := "<init>", desc := "()V", sig := { parameters := [], returnType := none }, accessFlags := 1, code := some k0c0 }
/-- java/lang/Object -/
def k0 : Class := { plain "java/lang/Object" none with
  accessFlags := 33
  interfaces := #[]
  cf := some (fileOf pool0 8 #[] #[{ accessFlags := 1, nameIndex := 5, descriptorIndex := 6, attributes := #[] }] 33 0 #[] #[])
  fields := #[]
  methods := #[k0m0]
  instanceTypes := #[]
  staticTypes := #[]
  resolved := Array.replicate 124 none
  statics := none }

def pool1 : Array CpInfo := pool [(2, .class_ 4), (1, u "java/lang/Object"), (0, u "<init>"), (0, u "()V"), (0, .class_ 8), (0, u "java/lang/String"), (0, .methodref 7 10), (0, .nameAndType 5 11), (0, u "([C)V"), (0, .integer 2147483647), (0, .methodref 14 15), (0, .class_ 16), (0, .nameAndType 17 18), (0, u "com/example/label_lattice/labellattice/RangeIsWrittenAsRangePinLaw"), (0, u "ch"), (0, u "(I)C"), (0, .methodref 14 20), (0, .nameAndType 21 22), (0, u "make"), (0, u "(ICCCC)Ljava/lang/String;"), (0, .methodref 24 25), (0, .class_ 26), (0, .nameAndType 27 28), (0, u "com/example/label_lattice/labellattice/Range"), (0, u "isWrittenAsRange"), (0, u "(Ljava/lang/String;)Z"), (3, u "law"), (0, u "(IIIII)Z")] 2

def k1m0 : Method := { name := "<init>", desc := "()V", sig := { parameters := [], returnType := none }, accessFlags := 2, code := none }
def k1c1 : Code := { maxStack := 2, maxLocals := 1, code := method_2_code, exceptionTable := #[], attributes := #[] }
def k1m1 : Method := { name := "ch", desc := "(I)C", sig := { parameters := [.int], returnType := some .char }, accessFlags := 10, code := some k1c1 }
def k1c2 : Code := { maxStack := 6, maxLocals := 5, code := method_3_code, exceptionTable := #[], attributes := #[] }
def k1m2 : Method := { name := "make", desc := "(ICCCC)Ljava/lang/String;", sig := { parameters := [.int, .char, .char, .char, .char], returnType := some (.object "java/lang/String") }, accessFlags := 10, code := some k1c2 }
def k1c3 : Code := { maxStack := 5, maxLocals := 12, code := code, exceptionTable := #[], attributes := #[] }
def k1m3 : Method := { name := "law", desc := "(IIIII)Z", sig := { parameters := [.int, .int, .int, .int, .int], returnType := some .boolean }, accessFlags := 9, code := some k1c3 }
/-- com/example/label_lattice/labellattice/RangeIsWrittenAsRangePinLaw -/
def k1 : Class := { plain "com/example/label_lattice/labellattice/RangeIsWrittenAsRangePinLaw" (some 0) with
  accessFlags := 49
  interfaces := #[]
  cf := some (fileOf pool1 14 #[] #[{ accessFlags := 2, nameIndex := 5, descriptorIndex := 6, attributes := #[] }, { accessFlags := 10, nameIndex := 17, descriptorIndex := 18, attributes := #[] }, { accessFlags := 10, nameIndex := 21, descriptorIndex := 22, attributes := #[] }, { accessFlags := 9, nameIndex := 32, descriptorIndex := 33, attributes := #[] }] 49 2 #[] #[])
  fields := #[]
  methods := #[k1m0, k1m1, k1m2, k1m3]
  instanceTypes := #[]
  staticTypes := #[]
  resolved := Array.replicate 36 none
  statics := none }

def pool2 : Array CpInfo := pool [(1, .class_ 2), (0, u "java/io/Serializable"), (0, .class_ 4), (0, u "java/lang/Object")] 2

/-- java/io/Serializable -/
def k2 : Class := { plain "java/io/Serializable" (some 0) with
  accessFlags := 1537
  interfaces := #[]
  cf := some (fileOf pool2 1 #[] #[] 1537 3 #[] #[])
  fields := #[]
  methods := #[]
  instanceTypes := #[]
  staticTypes := #[]
  resolved := Array.replicate 7 none
  statics := none }

def pool3 : Array CpInfo := pool [(1, .class_ 2), (0, u "java/lang/Comparable"), (0, .class_ 4), (0, u "java/lang/Object")] 7

/-- java/lang/Comparable -/
def k3 : Class := { plain "java/lang/Comparable" (some 0) with
  accessFlags := 1537
  interfaces := #[]
  cf := some (fileOf pool3 1 #[] #[] 1537 3 #[] #[])
  fields := #[]
  methods := #[]
  instanceTypes := #[]
  staticTypes := #[]
  resolved := Array.replicate 12 none
  statics := none }

def pool4 : Array CpInfo := pool [(2, .class_ 4), (1, u "java/lang/CharSequence"), (42, .class_ 48), (0, u "java/lang/CharSequence$1CodePointIterator"), (10, .class_ 60), (0, u "java/lang/CharSequence$1CharIterator"), (5, .class_ 67), (0, u "java/lang/Object")] 63

/-- java/lang/CharSequence -/
def k4 : Class := { plain "java/lang/CharSequence" (some 0) with
  accessFlags := 1537
  interfaces := #[]
  cf := some (fileOf pool4 2 #[.nestMembers #[47, 59]] #[] 1537 66 #[] #[])
  fields := #[]
  methods := #[]
  instanceTypes := #[]
  staticTypes := #[]
  resolved := Array.replicate 131 none
  statics := none }

def pool5 : Array CpInfo := pool [(1, .class_ 2), (0, u "java/lang/constant/Constable"), (0, .class_ 4), (0, u "java/lang/Object")] 6

/-- java/lang/constant/Constable -/
def k5 : Class := { plain "java/lang/constant/Constable" (some 0) with
  accessFlags := 1537
  interfaces := #[]
  cf := some (fileOf pool5 1 #[] #[] 1537 3 #[] #[])
  fields := #[]
  methods := #[]
  instanceTypes := #[]
  staticTypes := #[]
  resolved := Array.replicate 11 none
  statics := none }

def pool6 : Array CpInfo := pool [(1, .class_ 2), (0, u "java/lang/constant/ConstantDesc"), (0, .class_ 4), (0, u "java/lang/Object")] 32

/-- java/lang/constant/ConstantDesc -/
def k6 : Class := { plain "java/lang/constant/ConstantDesc" (some 0) with
  accessFlags := 1537
  interfaces := #[]
  cf := some (fileOf pool6 1 #[] #[] 1537 3 #[] #[])
  fields := #[]
  methods := #[]
  instanceTypes := #[]
  staticTypes := #[]
  resolved := Array.replicate 37 none
  statics := none }

def pool7 : Array CpInfo := pool [(1, .methodref 2 3), (0, .class_ 4), (0, .nameAndType 5 6), (0, u "java/lang/Object"), (0, u "<init>"), (0, u "()V"), (0, .string 8), (0, u ""), (0, .fieldref 10 11), (0, .class_ 12), (0, .nameAndType 13 14), (0, u "java/lang/String"), (0, u "value"), (0, u "[B"), (0, .fieldref 10 16), (0, .nameAndType 17 18), (0, u "coder"), (0, u "B"), (2, u "hash"), (0, u "I"), (2, u "hashIsZero"), (0, u "Z"), (0, .methodref 10 28), (0, .nameAndType 5 29), (0, u "([CIILjava/lang/Void;)V"), (8, .fieldref 10 39), (0, .nameAndType 40 26), (0, u "COMPACT_STRINGS"), (1, .class_ 44), (1, u "java/lang/StringUTF16"), (0, u "compress"), (1, .methodref 42 48), (0, .nameAndType 49 50), (0, u "coderFromArrayLen"), (0, u "([BI)B"), (56, .class_ 109), (1, u "java/lang/StringLatin1"), (32, u "()Z"), (34, .methodref 42 178), (0, .nameAndType 45 179), (0, u "([CII)[B"), (154, u "()I"), (0, .methodref 10 336), (0, .nameAndType 17 337), (0, u "()B"), (154, .methodref 10 493), (0, .nameAndType 494 142), (0, u "isLatin1"), (10, .methodref 10 506), (0, .nameAndType 507 334), (0, u "length"), (5, u "checkFromToIndex"), (9, u "checkBoundsBeginEnd"), (0, u "(III)V"), (50, .class_ 576), (0, u "java/lang/CharSequence"), (22, u "CASE_INSENSITIVE_ORDER"), (0, u "Ljava/util/Comparator;"), (32, .methodref 10 634), (0, .nameAndType 635 636), (0, u "indexOf"), (0, u "(II)I"), (0, .methodref 107 638), (0, .nameAndType 635 639), (0, u "([BIII)I"), (0, .methodref 42 638), (124, u "(I)I"), (244, u "([C)V"), (42, .fieldref 1054 1055), (0, .class_ 1056), (0, .nameAndType 1057 1058), (0, u "jdk/internal/util/Preconditions"), (0, u "SIOOBE_FORMATTER"), (0, u "Ljava/util/function/BiFunction;"), (3, .methodref 1054 1063), (0, .nameAndType 513 1064), (0, u "(IIILjava/util/function/BiFunction;)I"), (36, u "serialPersistentFields"), (0, u "[Ljava/io/ObjectStreamField;"), (0, .class_ 1104), (0, u "java/lang/String$CaseInsensitiveComparator"), (1, .class_ 1107), (0, u "java/io/Serializable"), (0, .class_ 1109), (0, u "java/lang/Comparable"), (0, .class_ 1111), (0, u "java/lang/constant/Constable"), (0, .class_ 1113), (0, u "java/lang/constant/ConstantDesc"), (2, u "serialVersionUID"), (0, u "J"), (3, u "REPL"), (0, u "C"), (2, u "LATIN1"), (1, u "UTF16")] 323

def k7m0 : Method := { name := "<init>", desc := "()V", sig := { parameters := [], returnType := none }, accessFlags := 1, code := none }
def k7c1 : Code := { maxStack := 5, maxLocals := 2, code := jdk_42_method_3_code, exceptionTable := #[], attributes := #[] }
def k7m1 : Method := { name := "<init>", desc := "([C)V", sig := { parameters := [(.array .char)], returnType := none }, accessFlags := 1, code := some k7c1 }
def k7c2 : Code := { maxStack := 2, maxLocals := 1, code := jdk_42_method_54_code, exceptionTable := #[], attributes := #[] }
def k7m2 : Method := { name := "length", desc := "()I", sig := { parameters := [], returnType := some .int }, accessFlags := 1, code := some k7c2 }
def k7c3 : Code := { maxStack := 3, maxLocals := 2, code := jdk_42_method_79_code, exceptionTable := #[], attributes := #[] }
def k7m3 : Method := { name := "indexOf", desc := "(I)I", sig := { parameters := [.int], returnType := some .int }, accessFlags := 1, code := some k7c3 }
def k7c4 : Code := { maxStack := 4, maxLocals := 3, code := jdk_42_method_80_code, exceptionTable := #[], attributes := #[] }
def k7m4 : Method := { name := "indexOf", desc := "(II)I", sig := { parameters := [.int, .int], returnType := some .int }, accessFlags := 1, code := some k7c4 }
def k7c5 : Code := { maxStack := 4, maxLocals := 6, code := jdk_42_method_149_code, exceptionTable := #[], attributes := #[] }
def k7m5 : Method := { name := "<init>", desc := "([CIILjava/lang/Void;)V", sig := { parameters := [(.array .char), .int, .int, (.object "java/lang/Void")], returnType := none }, accessFlags := 2, code := some k7c5 }
def k7c6 : Code := { maxStack := 1, maxLocals := 1, code := jdk_42_method_152_code, exceptionTable := #[], attributes := #[] }
def k7m6 : Method := { name := "coder", desc := "()B", sig := { parameters := [], returnType := some .byte }, accessFlags := 0, code := some k7c6 }
def k7c7 : Code := { maxStack := 1, maxLocals := 1, code := jdk_42_method_154_code, exceptionTable := #[], attributes := #[] }
def k7m7 : Method := { name := "isLatin1", desc := "()Z", sig := { parameters := [], returnType := some .boolean }, accessFlags := 0, code := some k7c7 }
def k7c8 : Code := { maxStack := 4, maxLocals := 3, code := jdk_42_method_158_code, exceptionTable := #[], attributes := #[] }
def k7m8 : Method := { name := "checkBoundsBeginEnd", desc := "(III)V", sig := { parameters := [.int, .int, .int], returnType := none }, accessFlags := 8, code := some k7c8 }
/-- java/lang/String -/
def k7 : Class := { plain "java/lang/String" (some 0) with
  accessFlags := 49
  interfaces := #[2, 3, 4, 5, 6]
  cf := some (fileOf pool7 10 #[.nestMembers #[1103]] #[{ accessFlags := 1, nameIndex := 5, descriptorIndex := 6, attributes := #[] }, { accessFlags := 1, nameIndex := 5, descriptorIndex := 1010, attributes := #[] }, { accessFlags := 1, nameIndex := 507, descriptorIndex := 334, attributes := #[] }, { accessFlags := 1, nameIndex := 635, descriptorIndex := 765, attributes := #[] }, { accessFlags := 1, nameIndex := 635, descriptorIndex := 636, attributes := #[] }, { accessFlags := 2, nameIndex := 5, descriptorIndex := 29, attributes := #[] }, { accessFlags := 0, nameIndex := 17, descriptorIndex := 337, attributes := #[] }, { accessFlags := 0, nameIndex := 494, descriptorIndex := 142, attributes := #[] }, { accessFlags := 8, nameIndex := 523, descriptorIndex := 524, attributes := #[] }] 49 2 #[1106, 1108, 575, 1110, 1112] #[{ accessFlags := 18, nameIndex := 13, descriptorIndex := 14, attributes := #[] }, { accessFlags := 18, nameIndex := 17, descriptorIndex := 18, attributes := #[] }, { accessFlags := 2, nameIndex := 21, descriptorIndex := 22, attributes := #[] }, { accessFlags := 2, nameIndex := 25, descriptorIndex := 26, attributes := #[] }, { accessFlags := 26, nameIndex := 1116, descriptorIndex := 1117, attributes := #[] }, { accessFlags := 24, nameIndex := 40, descriptorIndex := 26, attributes := #[] }, { accessFlags := 26, nameIndex := 1101, descriptorIndex := 1102, attributes := #[] }, { accessFlags := 26, nameIndex := 1121, descriptorIndex := 1122, attributes := #[] }, { accessFlags := 25, nameIndex := 599, descriptorIndex := 600, attributes := #[] }, { accessFlags := 24, nameIndex := 1125, descriptorIndex := 18, attributes := #[] }, { accessFlags := 24, nameIndex := 1127, descriptorIndex := 18, attributes := #[] }])
  fields := #[{ name := "value", type := (.array .byte), accessFlags := 18, slot := 0, constantValue := 0 }, { name := "coder", type := .byte, accessFlags := 18, slot := 1, constantValue := 0 }, { name := "hash", type := .int, accessFlags := 2, slot := 2, constantValue := 0 }, { name := "hashIsZero", type := .boolean, accessFlags := 2, slot := 3, constantValue := 0 }, { name := "serialVersionUID", type := .long, accessFlags := 26, slot := 0, constantValue := 0 }, { name := "COMPACT_STRINGS", type := .boolean, accessFlags := 24, slot := 1, constantValue := 0 }, { name := "serialPersistentFields", type := (.array (.object "java/io/ObjectStreamField")), accessFlags := 26, slot := 2, constantValue := 0 }, { name := "REPL", type := .char, accessFlags := 26, slot := 3, constantValue := 0 }, { name := "CASE_INSENSITIVE_ORDER", type := (.object "java/util/Comparator"), accessFlags := 25, slot := 4, constantValue := 0 }, { name := "LATIN1", type := .byte, accessFlags := 24, slot := 5, constantValue := 0 }, { name := "UTF16", type := .byte, accessFlags := 24, slot := 6, constantValue := 0 }]
  methods := #[k7m0, k7m1, k7m2, k7m3, k7m4, k7m5, k7m6, k7m7, k7m8]
  instanceTypes := #[(.array .byte), .byte, .int, .boolean]
  staticTypes := #[.long, .boolean, (.array (.object "java/io/ObjectStreamField")), .char, (.object "java/util/Comparator"), .byte, .byte]
  resolved := Array.replicate 1451 none
  statics := some 0 }

def pool8 : Array CpInfo := pool [(2, .class_ 4), (1, u "java/lang/Object"), (0, u "<init>"), (0, u "()V"), (0, .class_ 8), (0, u "java/lang/Record")] 13

def k8m0 : Method := { name := "<init>", desc := "()V", sig := { parameters := [], returnType := none }, accessFlags := 4, code := none }
/-- java/lang/Record -/
def k8 : Class := { plain "java/lang/Record" (some 0) with
  accessFlags := 1057
  interfaces := #[]
  cf := some (fileOf pool8 7 #[] #[{ accessFlags := 4, nameIndex := 5, descriptorIndex := 6, attributes := #[] }] 1057 2 #[] #[])
  fields := #[]
  methods := #[k8m0]
  instanceTypes := #[]
  staticTypes := #[]
  resolved := Array.replicate 22 none
  statics := none }

def pool9 : Array CpInfo := pool [(2, .class_ 4), (1, u "java/lang/Record"), (15, .class_ 22), (1, u "com/example/label_lattice/labellattice/Range"), (0, u "low"), (0, u "Lcom/example/label_lattice/labellattice/Label;"), (2, u "high"), (0, .methodref 29 30), (0, .class_ 31), (0, .nameAndType 32 33), (0, u "java/lang/String"), (0, u "indexOf"), (0, u "(I)I"), (31, u "isWrittenAsRange"), (0, u "(Ljava/lang/String;)Z")] 67

def k9c0 : Code := { maxStack := 2, maxLocals := 1, code := prog_36_method_4_code, exceptionTable := #[], attributes := #[] }
def k9m0 : Method := { name := "isWrittenAsRange", desc := "(Ljava/lang/String;)Z", sig := { parameters := [(.object "java/lang/String")], returnType := some .boolean }, accessFlags := 8, code := some k9c0 }
/-- com/example/label_lattice/labellattice/Range -/
def k9 : Class := { plain "com/example/label_lattice/labellattice/Range" (some 8) with
  accessFlags := 49
  interfaces := #[]
  cf := some (fileOf pool9 20 #[] #[{ accessFlags := 8, nameIndex := 65, descriptorIndex := 66, attributes := #[] }] 49 2 #[] #[{ accessFlags := 18, nameIndex := 23, descriptorIndex := 24, attributes := #[] }, { accessFlags := 18, nameIndex := 27, descriptorIndex := 24, attributes := #[] }])
  fields := #[{ name := "low", type := (.object "com/example/label_lattice/labellattice/Label"), accessFlags := 18, slot := 0, constantValue := 0 }, { name := "high", type := (.object "com/example/label_lattice/labellattice/Label"), accessFlags := 18, slot := 1, constantValue := 0 }]
  methods := #[k9m0]
  instanceTypes := #[(.object "com/example/label_lattice/labellattice/Label"), (.object "com/example/label_lattice/labellattice/Label")]
  staticTypes := #[]
  resolved := Array.replicate 134 none
  statics := none }

def pool10 : Array CpInfo := pool [(4, .class_ 6), (1, u "java/lang/Object"), (0, u "<init>"), (0, u "()V"), (5, .class_ 16), (1, u "java/lang/StringLatin1"), (21, .methodref 39 40), (0, .class_ 41), (0, .nameAndType 42 43), (0, u "java/lang/Math"), (0, u "min"), (0, u "(II)I"), (44, .methodref 14 89), (0, .nameAndType 90 91), (0, u "canEncode"), (0, u "(I)Z"), (0, .methodref 39 93), (0, .nameAndType 94 43), (0, u "max"), (0, .methodref 14 96), (0, .nameAndType 97 98), (0, u "indexOfChar"), (0, u "([BIII)I"), (2, u "indexOf"), (19, u "$assertionsDisabled"), (0, u "Z"), (98, .class_ 223), (1, u "java/lang/StringLatin1$LinesSpliterator"), (166, .class_ 391), (0, u "java/lang/StringLatin1$CharsSpliterator")] 3

def k10m0 : Method := { name := "<init>", desc := "()V", sig := { parameters := [], returnType := none }, accessFlags := 0, code := none }
def k10c1 : Code := { maxStack := 2, maxLocals := 1, code := jdk_43_method_4_code, exceptionTable := #[], attributes := #[] }
def k10m1 : Method := { name := "canEncode", desc := "(I)Z", sig := { parameters := [.int], returnType := some .boolean }, accessFlags := 9, code := some k10c1 }
def k10c2 : Code := { maxStack := 4, maxLocals := 4, code := jdk_43_method_22_code, exceptionTable := #[], attributes := #[] }
def k10m2 : Method := { name := "indexOf", desc := "([BIII)I", sig := { parameters := [(.array .byte), .int, .int, .int], returnType := some .int }, accessFlags := 9, code := some k10c2 }
def k10c3 : Code := { maxStack := 2, maxLocals := 6, code := jdk_43_method_23_code, exceptionTable := #[], attributes := #[] }
def k10m3 : Method := { name := "indexOfChar", desc := "([BIII)I", sig := { parameters := [(.array .byte), .int, .int, .int], returnType := some .int }, accessFlags := 10, code := some k10c3 }
/-- java/lang/StringLatin1 -/
def k10 : Class := { plain "java/lang/StringLatin1" (some 0) with
  accessFlags := 48
  interfaces := #[]
  cf := some (fileOf pool10 14 #[.nestMembers #[390, 221]] #[{ accessFlags := 0, nameIndex := 7, descriptorIndex := 8, attributes := #[] }, { accessFlags := 9, nameIndex := 90, descriptorIndex := 91, attributes := #[] }, { accessFlags := 9, nameIndex := 101, descriptorIndex := 98, attributes := #[] }, { accessFlags := 10, nameIndex := 97, descriptorIndex := 98, attributes := #[] }] 48 4 #[] #[{ accessFlags := 4120, nameIndex := 121, descriptorIndex := 122, attributes := #[] }])
  fields := #[{ name := "$assertionsDisabled", type := .boolean, accessFlags := 4120, slot := 0, constantValue := 0 }]
  methods := #[k10m0, k10m1, k10m2, k10m3]
  instanceTypes := #[]
  staticTypes := #[.boolean]
  resolved := Array.replicate 395 none
  statics := none }

def pool11 : Array CpInfo := pool [(1, .class_ 2), (0, u "java/lang/Math"), (1, .class_ 6), (1, u "java/lang/Object"), (0, u "<init>"), (0, u "()V"), (89, .class_ 100), (1, u "java/lang/Math$RandomNumberGeneratorHolder"), (71, u "negativeZeroFloatBits"), (0, u "J"), (2, u "negativeZeroDoubleBits"), (21, u "max"), (2, u "min"), (43, u "$assertionsDisabled"), (0, u "Z"), (88, u "(II)I"), (2, u "twoToTheDoubleScaleDown"), (0, u "D"), (4, u "twoToTheDoubleScaleUp"), (9, u "E"), (3, u "PI"), (2, u "TAU"), (2, u "DEGREES_TO_RADIANS"), (0, u "RADIANS_TO_DEGREES")] 94

def k11m0 : Method := { name := "<init>", desc := "()V", sig := { parameters := [], returnType := none }, accessFlags := 2, code := none }
def k11c1 : Code := { maxStack := 2, maxLocals := 2, code := jdk_29_method_65_code, exceptionTable := #[], attributes := #[] }
def k11m1 : Method := { name := "max", desc := "(II)I", sig := { parameters := [.int, .int], returnType := some .int }, accessFlags := 9, code := some k11c1 }
def k11c2 : Code := { maxStack := 2, maxLocals := 2, code := jdk_29_method_69_code, exceptionTable := #[], attributes := #[] }
def k11m2 : Method := { name := "min", desc := "(II)I", sig := { parameters := [.int, .int], returnType := some .int }, accessFlags := 9, code := some k11c2 }
/-- java/lang/Math -/
def k11 : Class := { plain "java/lang/Math" (some 0) with
  accessFlags := 49
  interfaces := #[]
  cf := some (fileOf pool11 1 #[.nestMembers #[98]] #[{ accessFlags := 2, nameIndex := 7, descriptorIndex := 8, attributes := #[] }, { accessFlags := 9, nameIndex := 198, descriptorIndex := 335, attributes := #[] }, { accessFlags := 9, nameIndex := 201, descriptorIndex := 335, attributes := #[] }] 49 4 #[] #[{ accessFlags := 25, nameIndex := 354, descriptorIndex := 339, attributes := #[] }, { accessFlags := 25, nameIndex := 358, descriptorIndex := 339, attributes := #[] }, { accessFlags := 25, nameIndex := 361, descriptorIndex := 339, attributes := #[] }, { accessFlags := 26, nameIndex := 364, descriptorIndex := 339, attributes := #[] }, { accessFlags := 26, nameIndex := 365, descriptorIndex := 339, attributes := #[] }, { accessFlags := 26, nameIndex := 172, descriptorIndex := 173, attributes := #[] }, { accessFlags := 26, nameIndex := 176, descriptorIndex := 173, attributes := #[] }, { accessFlags := 8, nameIndex := 344, descriptorIndex := 339, attributes := #[] }, { accessFlags := 8, nameIndex := 338, descriptorIndex := 339, attributes := #[] }, { accessFlags := 4120, nameIndex := 245, descriptorIndex := 246, attributes := #[] }])
  fields := #[{ name := "E", type := .double, accessFlags := 25, slot := 0, constantValue := 0 }, { name := "PI", type := .double, accessFlags := 25, slot := 1, constantValue := 0 }, { name := "TAU", type := .double, accessFlags := 25, slot := 2, constantValue := 0 }, { name := "DEGREES_TO_RADIANS", type := .double, accessFlags := 26, slot := 3, constantValue := 0 }, { name := "RADIANS_TO_DEGREES", type := .double, accessFlags := 26, slot := 4, constantValue := 0 }, { name := "negativeZeroFloatBits", type := .long, accessFlags := 26, slot := 5, constantValue := 0 }, { name := "negativeZeroDoubleBits", type := .long, accessFlags := 26, slot := 6, constantValue := 0 }, { name := "twoToTheDoubleScaleUp", type := .double, accessFlags := 8, slot := 7, constantValue := 0 }, { name := "twoToTheDoubleScaleDown", type := .double, accessFlags := 8, slot := 8, constantValue := 0 }, { name := "$assertionsDisabled", type := .boolean, accessFlags := 4120, slot := 9, constantValue := 0 }]
  methods := #[k11m0, k11m1, k11m2]
  instanceTypes := #[]
  staticTypes := #[.double, .double, .double, .double, .double, .long, .long, .double, .double, .boolean]
  resolved := Array.replicate 460 none
  statics := none }

def pool12 : Array CpInfo := pool [(3, .class_ 4), (0, u "java/lang/String"), (1, .class_ 8), (1, u "java/lang/Object"), (0, u "<init>"), (0, u "()V"), (0, .methodref 12 13), (0, .class_ 14), (0, .nameAndType 15 16), (0, u "java/lang/StringUTF16"), (0, u "newBytesLength"), (0, u "(I)I"), (3, .integer 1073741823), (23, .fieldref 12 45), (0, .nameAndType 46 47), (0, u "$assertionsDisabled"), (0, u "Z"), (0, .methodref 12 49), (0, .nameAndType 50 51), (0, u "length"), (0, u "([B)I"), (7, .fieldref 12 60), (0, .nameAndType 61 62), (0, u "HI_BYTE_SHIFT"), (0, u "I"), (0, .fieldref 12 64), (0, .nameAndType 65 62), (0, u "LO_BYTE_SHIFT"), (5, .methodref 12 72), (0, .nameAndType 73 74), (0, u "getChar"), (0, u "([BI)C"), (21, .methodref 12 97), (0, .nameAndType 98 99), (0, u "checkBoundsBeginEnd"), (0, u "(II[B)V"), (7, .methodref 12 108), (0, .nameAndType 109 110), (0, u "newBytesFor"), (0, u "(I)[B"), (0, .methodref 12 112), (0, .nameAndType 113 114), (0, u "putChar"), (0, u "([BII)V"), (0, .methodref 12 116), (0, .nameAndType 117 118), (0, u "compress"), (0, u "([CI[BII)I"), (0, .methodref 12 120), (0, .nameAndType 121 122), (0, u "toBytes"), (0, u "([CII)[B"), (60, .methodref 184 185), (0, .class_ 186), (0, .nameAndType 187 188), (0, u "java/lang/Math"), (0, u "min"), (0, u "(II)I"), (35, .methodref 184 225), (0, .nameAndType 226 188), (0, u "max"), (0, .integer 65536), (0, .methodref 12 229), (0, .nameAndType 230 231), (0, u "indexOfChar"), (0, u "([BIII)I"), (9, .methodref 3 242), (0, .nameAndType 98 243), (0, u "(III)V"), (0, .methodref 12 245), (0, .nameAndType 246 231), (0, u "indexOfCharUnsafe"), (14, u "coderFromArrayLen"), (0, u "([BI)B"), (5, u "indexOf"), (100, .class_ 371), (1, u "java/lang/StringUTF16$LinesSpliterator"), (58, u "MAX_LENGTH"), (196, .class_ 628), (0, u "java/lang/StringUTF16$CodePointsSpliterator"), (0, .class_ 630), (0, u "java/lang/StringUTF16$CharsSpliterator")] 4

def k12m0 : Method := { name := "<init>", desc := "()V", sig := { parameters := [], returnType := none }, accessFlags := 0, code := none }
def k12c1 : Code := { maxStack := 1, maxLocals := 1, code := jdk_52_method_2_code, exceptionTable := #[], attributes := #[] }
def k12m1 : Method := { name := "newBytesFor", desc := "(I)[B", sig := { parameters := [.int], returnType := some (.array .byte) }, accessFlags := 9, code := some k12c1 }
def k12c2 : Code := { maxStack := 4, maxLocals := 1, code := jdk_52_method_3_code, exceptionTable := #[], attributes := #[] }
def k12m2 : Method := { name := "newBytesLength", desc := "(I)I", sig := { parameters := [.int], returnType := some .int }, accessFlags := 9, code := some k12c2 }
def k12c3 : Code := { maxStack := 4, maxLocals := 3, code := jdk_52_method_4_code, exceptionTable := #[], attributes := #[] }
def k12m3 : Method := { name := "putChar", desc := "([BII)V", sig := { parameters := [(.array .byte), .int, .int], returnType := none }, accessFlags := 8, code := some k12c3 }
def k12c4 : Code := { maxStack := 3, maxLocals := 2, code := jdk_52_method_5_code, exceptionTable := #[], attributes := #[] }
def k12m4 : Method := { name := "getChar", desc := "([BI)C", sig := { parameters := [(.array .byte), .int], returnType := some .char }, accessFlags := 8, code := some k12c4 }
def k12c5 : Code := { maxStack := 2, maxLocals := 1, code := jdk_52_method_6_code, exceptionTable := #[], attributes := #[] }
def k12m5 : Method := { name := "length", desc := "([B)I", sig := { parameters := [(.array .byte)], returnType := some .int }, accessFlags := 9, code := some k12c5 }
def k12c6 : Code := { maxStack := 4, maxLocals := 5, code := jdk_52_method_14_code, exceptionTable := #[], attributes := #[] }
def k12m6 : Method := { name := "toBytes", desc := "([CII)[B", sig := { parameters := [(.array .char), .int, .int], returnType := some (.array .byte) }, accessFlags := 9, code := some k12c6 }
def k12c7 : Code := { maxStack := 2, maxLocals := 2, code := jdk_52_method_15_code, exceptionTable := #[], attributes := #[] }
def k12m7 : Method := { name := "coderFromArrayLen", desc := "([BI)B", sig := { parameters := [(.array .byte), .int], returnType := some .byte }, accessFlags := 8, code := some k12c7 }
def k12c8 : Code := { maxStack := 5, maxLocals := 6, code := jdk_52_method_16_code, exceptionTable := #[], attributes := #[] }
def k12m8 : Method := { name := "compress", desc := "([CII)[B", sig := { parameters := [(.array .char), .int, .int], returnType := some (.array .byte) }, accessFlags := 9, code := some k12c8 }
def k12c9 : Code := { maxStack := 3, maxLocals := 7, code := jdk_52_method_21_code, exceptionTable := #[], attributes := #[] }
def k12m9 : Method := { name := "compress", desc := "([CI[BII)I", sig := { parameters := [(.array .char), .int, (.array .byte), .int, .int], returnType := some .int }, accessFlags := 9, code := some k12c9 }
def k12c10 : Code := { maxStack := 4, maxLocals := 4, code := jdk_52_method_40_code, exceptionTable := #[], attributes := #[] }
def k12m10 : Method := { name := "indexOf", desc := "([BIII)I", sig := { parameters := [(.array .byte), .int, .int, .int], returnType := some .int }, accessFlags := 9, code := some k12c10 }
def k12c11 : Code := { maxStack := 4, maxLocals := 4, code := jdk_52_method_47_code, exceptionTable := #[], attributes := #[] }
def k12m11 : Method := { name := "indexOfChar", desc := "([BIII)I", sig := { parameters := [(.array .byte), .int, .int, .int], returnType := some .int }, accessFlags := 10, code := some k12c11 }
def k12c12 : Code := { maxStack := 2, maxLocals := 5, code := jdk_52_method_48_code, exceptionTable := #[], attributes := #[] }
def k12m12 : Method := { name := "indexOfCharUnsafe", desc := "([BIII)I", sig := { parameters := [(.array .byte), .int, .int, .int], returnType := some .int }, accessFlags := 10, code := some k12c12 }
def k12c13 : Code := { maxStack := 3, maxLocals := 3, code := jdk_52_method_93_code, exceptionTable := #[], attributes := #[] }
def k12m13 : Method := { name := "checkBoundsBeginEnd", desc := "(II[B)V", sig := { parameters := [.int, .int, (.array .byte)], returnType := none }, accessFlags := 9, code := some k12c13 }
/-- java/lang/StringUTF16 -/
def k12 : Class := { plain "java/lang/StringUTF16" (some 0) with
  accessFlags := 48
  interfaces := #[]
  cf := some (fileOf pool12 12 #[.nestMembers #[627, 629, 369]] #[{ accessFlags := 0, nameIndex := 9, descriptorIndex := 10, attributes := #[] }, { accessFlags := 9, nameIndex := 109, descriptorIndex := 110, attributes := #[] }, { accessFlags := 9, nameIndex := 15, descriptorIndex := 16, attributes := #[] }, { accessFlags := 8, nameIndex := 113, descriptorIndex := 114, attributes := #[] }, { accessFlags := 8, nameIndex := 73, descriptorIndex := 74, attributes := #[] }, { accessFlags := 9, nameIndex := 50, descriptorIndex := 51, attributes := #[] }, { accessFlags := 9, nameIndex := 121, descriptorIndex := 122, attributes := #[] }, { accessFlags := 8, nameIndex := 261, descriptorIndex := 262, attributes := #[] }, { accessFlags := 9, nameIndex := 117, descriptorIndex := 122, attributes := #[] }, { accessFlags := 9, nameIndex := 117, descriptorIndex := 118, attributes := #[] }, { accessFlags := 9, nameIndex := 268, descriptorIndex := 231, attributes := #[] }, { accessFlags := 10, nameIndex := 230, descriptorIndex := 231, attributes := #[] }, { accessFlags := 10, nameIndex := 246, descriptorIndex := 231, attributes := #[] }, { accessFlags := 9, nameIndex := 98, descriptorIndex := 99, attributes := #[] }] 48 6 #[] #[{ accessFlags := 26, nameIndex := 61, descriptorIndex := 62, attributes := #[] }, { accessFlags := 26, nameIndex := 65, descriptorIndex := 62, attributes := #[] }, { accessFlags := 24, nameIndex := 430, descriptorIndex := 62, attributes := #[] }, { accessFlags := 4120, nameIndex := 46, descriptorIndex := 47, attributes := #[] }])
  fields := #[{ name := "HI_BYTE_SHIFT", type := .int, accessFlags := 26, slot := 0, constantValue := 0 }, { name := "LO_BYTE_SHIFT", type := .int, accessFlags := 26, slot := 1, constantValue := 0 }, { name := "MAX_LENGTH", type := .int, accessFlags := 24, slot := 2, constantValue := 0 }, { name := "$assertionsDisabled", type := .boolean, accessFlags := 4120, slot := 3, constantValue := 0 }]
  methods := #[k12m0, k12m1, k12m2, k12m3, k12m4, k12m5, k12m6, k12m7, k12m8, k12m9, k12m10, k12m11, k12m12, k12m13]
  instanceTypes := #[]
  staticTypes := #[.int, .int, .int, .boolean]
  resolved := Array.replicate 635 none
  statics := some 1 }

def pool13 : Array CpInfo := pool [(2, .class_ 4), (1, u "java/lang/Object"), (0, u "<init>"), (0, u "()V"), (17, .class_ 26), (1, u "jdk/internal/util/Preconditions"), (20, u "checkFromToIndex"), (7, .class_ 56), (0, u "jdk/internal/util/Preconditions$4"), (57, .class_ 115), (0, u "jdk/internal/util/Preconditions$1"), (7, u "SIOOBE_FORMATTER"), (0, u "Ljava/util/function/BiFunction;"), (0, .class_ 126), (0, u "jdk/internal/util/Preconditions$2"), (3, u "AIOOBE_FORMATTER"), (0, .class_ 132), (0, u "jdk/internal/util/Preconditions$3"), (3, u "IOOBE_FORMATTER"), (46, u "(IIILjava/util/function/BiFunction;)I")] 10

def k13m0 : Method := { name := "<init>", desc := "()V", sig := { parameters := [], returnType := none }, accessFlags := 1, code := none }
def k13c1 : Code := { maxStack := 4, maxLocals := 4, code := jdk_41_method_12_code, exceptionTable := #[], attributes := #[] }
def k13m1 : Method := { name := "checkFromToIndex", desc := "(IIILjava/util/function/BiFunction;)I", sig := { parameters := [.int, .int, .int, (.object "java/util/function/BiFunction")], returnType := some .int }, accessFlags := 9, code := some k13c1 }
/-- jdk/internal/util/Preconditions -/
def k13 : Class := { plain "jdk/internal/util/Preconditions" (some 0) with
  accessFlags := 33
  interfaces := #[]
  cf := some (fileOf pool13 24 #[.nestMembers #[55, 131, 125, 114]] #[{ accessFlags := 1, nameIndex := 5, descriptorIndex := 6, attributes := #[] }, { accessFlags := 9, nameIndex := 47, descriptorIndex := 183, attributes := #[] }] 33 2 #[] #[{ accessFlags := 25, nameIndex := 123, descriptorIndex := 124, attributes := #[] }, { accessFlags := 25, nameIndex := 130, descriptorIndex := 124, attributes := #[] }, { accessFlags := 25, nameIndex := 136, descriptorIndex := 124, attributes := #[] }])
  fields := #[{ name := "SIOOBE_FORMATTER", type := (.object "java/util/function/BiFunction"), accessFlags := 25, slot := 0, constantValue := 0 }, { name := "AIOOBE_FORMATTER", type := (.object "java/util/function/BiFunction"), accessFlags := 25, slot := 1, constantValue := 0 }, { name := "IOOBE_FORMATTER", type := (.object "java/util/function/BiFunction"), accessFlags := 25, slot := 2, constantValue := 0 }]
  methods := #[k13m0, k13m1]
  instanceTypes := #[]
  staticTypes := #[(.object "java/util/function/BiFunction"), (.object "java/util/function/BiFunction"), (.object "java/util/function/BiFunction")]
  resolved := Array.replicate 194 none
  statics := some 2 }

def pool14 : Array CpInfo := pool [(9, u "<init>"), (6, .class_ 18), (1, u "java/lang/Object"), (0, u "()V"), (1, .class_ 23), (1, u "jdk/internal/util/ArraysSupport"), (0, u "LOG2_ARRAY_LONG_INDEX_SCALE"), (0, u "I"), (2, u "U"), (0, u "Ljdk/internal/misc/Unsafe;"), (8, u "BIG_ENDIAN"), (0, u "Z"), (8, u "LOG2_BYTE_BIT_SIZE"), (4, u "LOG2_ARRAY_INT_INDEX_SCALE"), (54, u "JLA"), (0, u "Ljdk/internal/access/JavaLangAccess;"), (11, u "LOG2_ARRAY_BOOLEAN_INDEX_SCALE"), (9, u "LOG2_ARRAY_BYTE_INDEX_SCALE"), (5, u "LOG2_ARRAY_CHAR_INDEX_SCALE"), (5, u "LOG2_ARRAY_SHORT_INDEX_SCALE"), (18, u "LOG2_ARRAY_FLOAT_INDEX_SCALE"), (24, u "LOG2_ARRAY_DOUBLE_INDEX_SCALE"), (89, u "T_BOOLEAN"), (2, u "T_CHAR"), (1, u "T_FLOAT"), (1, u "T_DOUBLE"), (1, u "T_BYTE"), (1, u "T_SHORT"), (1, u "T_INT"), (1, u "T_LONG"), (1, u "SOFT_MAX_ARRAY_LENGTH")] 83

def k14m0 : Method := { name := "<init>", desc := "()V", sig := { parameters := [], returnType := none }, accessFlags := 2, code := none }
/-- jdk/internal/util/ArraysSupport -/
def k14 : Class := { plain "jdk/internal/util/ArraysSupport" (some 0) with
  accessFlags := 33
  interfaces := #[]
  cf := some (fileOf pool14 21 #[] #[{ accessFlags := 2, nameIndex := 9, descriptorIndex := 19, attributes := #[] }] 33 16 #[] #[{ accessFlags := 24, nameIndex := 28, descriptorIndex := 29, attributes := #[] }, { accessFlags := 26, nameIndex := 38, descriptorIndex := 39, attributes := #[] }, { accessFlags := 25, nameIndex := 121, descriptorIndex := 25, attributes := #[] }, { accessFlags := 25, nameIndex := 131, descriptorIndex := 25, attributes := #[] }, { accessFlags := 25, nameIndex := 137, descriptorIndex := 25, attributes := #[] }, { accessFlags := 25, nameIndex := 143, descriptorIndex := 25, attributes := #[] }, { accessFlags := 25, nameIndex := 53, descriptorIndex := 25, attributes := #[] }, { accessFlags := 25, nameIndex := 24, descriptorIndex := 25, attributes := #[] }, { accessFlags := 25, nameIndex := 162, descriptorIndex := 25, attributes := #[] }, { accessFlags := 25, nameIndex := 187, descriptorIndex := 25, attributes := #[] }, { accessFlags := 26, nameIndex := 48, descriptorIndex := 25, attributes := #[] }, { accessFlags := 25, nameIndex := 277, descriptorIndex := 25, attributes := #[] }, { accessFlags := 25, nameIndex := 280, descriptorIndex := 25, attributes := #[] }, { accessFlags := 25, nameIndex := 282, descriptorIndex := 25, attributes := #[] }, { accessFlags := 25, nameIndex := 284, descriptorIndex := 25, attributes := #[] }, { accessFlags := 25, nameIndex := 286, descriptorIndex := 25, attributes := #[] }, { accessFlags := 25, nameIndex := 288, descriptorIndex := 25, attributes := #[] }, { accessFlags := 25, nameIndex := 290, descriptorIndex := 25, attributes := #[] }, { accessFlags := 25, nameIndex := 292, descriptorIndex := 25, attributes := #[] }, { accessFlags := 26, nameIndex := 108, descriptorIndex := 109, attributes := #[] }, { accessFlags := 25, nameIndex := 294, descriptorIndex := 25, attributes := #[] }])
  fields := #[{ name := "U", type := (.object "jdk/internal/misc/Unsafe"), accessFlags := 24, slot := 0, constantValue := 0 }, { name := "BIG_ENDIAN", type := .boolean, accessFlags := 26, slot := 1, constantValue := 0 }, { name := "LOG2_ARRAY_BOOLEAN_INDEX_SCALE", type := .int, accessFlags := 25, slot := 2, constantValue := 0 }, { name := "LOG2_ARRAY_BYTE_INDEX_SCALE", type := .int, accessFlags := 25, slot := 3, constantValue := 0 }, { name := "LOG2_ARRAY_CHAR_INDEX_SCALE", type := .int, accessFlags := 25, slot := 4, constantValue := 0 }, { name := "LOG2_ARRAY_SHORT_INDEX_SCALE", type := .int, accessFlags := 25, slot := 5, constantValue := 0 }, { name := "LOG2_ARRAY_INT_INDEX_SCALE", type := .int, accessFlags := 25, slot := 6, constantValue := 0 }, { name := "LOG2_ARRAY_LONG_INDEX_SCALE", type := .int, accessFlags := 25, slot := 7, constantValue := 0 }, { name := "LOG2_ARRAY_FLOAT_INDEX_SCALE", type := .int, accessFlags := 25, slot := 8, constantValue := 0 }, { name := "LOG2_ARRAY_DOUBLE_INDEX_SCALE", type := .int, accessFlags := 25, slot := 9, constantValue := 0 }, { name := "LOG2_BYTE_BIT_SIZE", type := .int, accessFlags := 26, slot := 10, constantValue := 0 }, { name := "T_BOOLEAN", type := .int, accessFlags := 25, slot := 11, constantValue := 0 }, { name := "T_CHAR", type := .int, accessFlags := 25, slot := 12, constantValue := 0 }, { name := "T_FLOAT", type := .int, accessFlags := 25, slot := 13, constantValue := 0 }, { name := "T_DOUBLE", type := .int, accessFlags := 25, slot := 14, constantValue := 0 }, { name := "T_BYTE", type := .int, accessFlags := 25, slot := 15, constantValue := 0 }, { name := "T_SHORT", type := .int, accessFlags := 25, slot := 16, constantValue := 0 }, { name := "T_INT", type := .int, accessFlags := 25, slot := 17, constantValue := 0 }, { name := "T_LONG", type := .int, accessFlags := 25, slot := 18, constantValue := 0 }, { name := "JLA", type := (.object "jdk/internal/access/JavaLangAccess"), accessFlags := 26, slot := 19, constantValue := 0 }, { name := "SOFT_MAX_ARRAY_LENGTH", type := .int, accessFlags := 25, slot := 20, constantValue := 0 }]
  methods := #[k14m0]
  instanceTypes := #[]
  staticTypes := #[(.object "jdk/internal/misc/Unsafe"), .boolean, .int, .int, .int, .int, .int, .int, .int, .int, .int, .int, .int, .int, .int, .int, .int, .int, .int, (.object "jdk/internal/access/JavaLangAccess"), .int]
  resolved := Array.replicate 378 none
  statics := none }

def pool15 : Array CpInfo := pool [(1, u "java/lang/Cloneable"), (0, .class_ 1), (0, u "java/lang/Object"), (0, .class_ 3)] 3

/-- java/lang/Cloneable -/
def k15 : Class := { plain "java/lang/Cloneable" (some 0) with
  accessFlags := 1537
  interfaces := #[]
  cf := some (fileOf pool15 2 #[] #[] 1537 4 #[] #[])
  fields := #[]
  methods := #[]
  instanceTypes := #[]
  staticTypes := #[]
  resolved := Array.replicate 8 none
  statics := none }

/-- the primitive byte -/
def k16 : Class := { plain "byte" none with kind := .primitive 'B', accessFlags := 0x411 }
/-- [B -/
def k17 : Class := { plain "[B" (some 0) with kind := .array 16 .byte, interfaces := #[15, 2], accessFlags := 1041 }

/-- the primitive char -/
def k18 : Class := { plain "char" none with kind := .primitive 'C', accessFlags := 0x411 }
/-- [C -/
def k19 : Class := { plain "[C" (some 0) with kind := .array 18 .char, interfaces := #[15, 2], accessFlags := 1041 }

/-- the primitive int -/
def k20 : Class := { plain "int" none with kind := .primitive 'I', accessFlags := 0x411 }
/-- [I -/
def k21 : Class := { plain "[I" (some 0) with kind := .array 20 .int, interfaces := #[15, 2], accessFlags := 1041 }

def heap : Heap := #[{ cls := 7, slots := #[.long 0, .int 1, .null, .int 0, .null, .int 0, .int 0], vm := .statics 7 },
  { cls := 12, slots := #[.int 0, .int 8, .int 0, .int 1], vm := .statics 12 },
  { cls := 13, slots := #[.null, .null, .null], vm := .statics 13 }]
def classes : Array Class := #[k0, k1, k2, k3, k4, k5, k6, k7, k8, k9, k10, k11, k12, k13, k14, k15, k16, k17, k18, k19, k20, k21]
def interned : List (Array UInt16 × Addr) := []
def slotsUsed : Nat := 14
def theMethod : MethodId := ⟨1, 3⟩
def args0 : Array Value := #[.int 2, .int 97, .int 1, .int 99, .int 100]
def aboutOver (below : List Frame) : State where
  vm := { classes := classes, interned := interned.toArray }
  heap := heap
  slotsUsed := slotsUsed
  threads := #[{ frames := .invoking theMethod args0 :: below }]
def below0 : List Frame := [.native { method := ⟨0, 0⟩, args := #[] }]
def about1 : State := aboutOver below0
def p0 : Program := .bare "" "" ""
def e0 : Env := launch0.env 0 0 0
theorem w_frames : about1.frames = Frame.invoking theMethod args0 :: below0 := rfl
set_option maxRecDepth 65536 in
theorem w_args : argsFit about1.vm theMethod args0 = true := by decide +kernel
set_option maxRecDepth 65536 in
theorem w_heap : heapFits about1 = true := by decide +kernel
set_option maxRecDepth 65536 in
theorem w_runnable : about1.curStatus? = some .runnable := by decide +kernel
set_option maxRecDepth 65536 in
theorem w_alone : about1.alone = true := by decide +kernel
set_option maxRecDepth 65536 in
theorem w_named : about1.methodNamed? x = some theMethod := by decide +kernel
set_option maxRecDepth 65536 in
theorem w_hears : about1.hears theMethod below0 = true := by decide +kernel
set_option maxRecDepth 65536 in
theorem w_ripe : about1.ripe theMethod args0 below0 = true := by decide +kernel
theorem w_running : about1.status = .running := rfl
set_option maxRecDepth 65536 in
theorem w_room : about1.hasRoom e0.platform room_1 = true :=
  launch0.hasRoom_least _ room_1 (by decide +kernel) (by decide +kernel) (by decide +kernel) (by decide +kernel) (by decide +kernel) (by decide +kernel)
theorem allAtoms_all (ts : List Jvm.Cond) (a : Array Jvm.Value) (st : Jvm.State) : (allAtoms ts).before a st = ts.all (fun c => c.before a st) := by
  induction ts with
  | nil => rfl
  | cons c t ih =>
    show (Jvm.Cond.and c (allAtoms t)).before a st = _
    rw [Jvm.Cond.before_and, ih, List.all_cons]
def words1 : List Jvm.Cond := Jvm.Cond.code x code maxLocals ret :: tables_1
/-- a 'code' word, met by the world's own term for the bytes: nothing is compared byte by byte -/
theorem code_word {y : MethodName} {bytes : ByteArray} {mx : Nat} {rt : Option FieldType} {a : Array Value} {s : State} {m : MethodId} {meth : Method} {c : Code} (h1 : s.methodNamed? y = some m) (h2 : s.vm.method? m = some meth) (h3 : meth.code = some c) (h4 : c.code = bytes)
    (h5 : (c.maxLocals == mx && c.exceptionTable.isEmpty && decide (c.maxStack ≤ mostOperands) && decide (meth.sig.returnType = rt) && !meth.locks && decide (parseMethodDescriptor y.desc = some meth.sig)) = true) : (Jvm.Cond.code y bytes mx rt).before a s = true := by
  simp only [Bool.and_eq_true, beq_iff_eq, Bool.not_eq_true', decide_eq_true_eq] at h5
  obtain ⟨⟨⟨⟨⟨g1, g2⟩, g3⟩, g4⟩, g5⟩, g6⟩ := h5
  simp [Cond.before, Cond.holds, Cond.value, h1, h2, h3, h4, g1, g2, g3, g4, g5, g6]
def isCode : Jvm.Cond → Bool
  | .code _ _ _ _ => true
  | _ => false
theorem all_split {L : List Jvm.Cond} {P : Jvm.Cond → Bool} (h1 : L.all (fun c => isCode c || P c) = true) (h2 : ∀ c ∈ L.filter isCode, P c = true) : L.all P = true := by
  refine List.all_eq_true.mpr fun c hc => ?_
  have h := List.all_eq_true.mp h1 c hc
  rcases Bool.eq_false_or_eq_true (isCode c) with hi | hi
  · exact h2 c (List.mem_filter.mpr ⟨hc, hi⟩)
  · simpa [hi] using h
set_option maxRecDepth 65536 in
theorem w_c0 : (Jvm.Cond.code x code maxLocals ret).before args0 about1 = true := code_word (m := ⟨1, 3⟩) (meth := k1m3) (c := k1c3) (by decide +kernel) rfl rfl rfl (by decide +kernel)
set_option maxRecDepth 65536 in
theorem w_c1 : (Jvm.Cond.code ({ cls := "com/example/label_lattice/labellattice/RangeIsWrittenAsRangePinLaw", name := "ch", desc := "(I)C" } : Jvm.MethodName) method_2_code (1 : Nat) (Option.some Jvm.ClassFile.FieldType.char)).before args0 about1 = true := code_word (m := ⟨1, 1⟩) (meth := k1m1) (c := k1c1) (by decide +kernel) rfl rfl rfl (by decide +kernel)
set_option maxRecDepth 65536 in
theorem w_c2 : (Jvm.Cond.code ({ cls := "com/example/label_lattice/labellattice/RangeIsWrittenAsRangePinLaw", name := "make", desc := "(ICCCC)Ljava/lang/String;" } : Jvm.MethodName) method_3_code (5 : Nat) (Option.some (Jvm.ClassFile.FieldType.object "java/lang/String"))).before args0 about1 = true := code_word (m := ⟨1, 2⟩) (meth := k1m2) (c := k1c2) (by decide +kernel) rfl rfl rfl (by decide +kernel)
set_option maxRecDepth 65536 in
theorem w_c3 : (Jvm.Cond.code ({ cls := "java/lang/String", name := "<init>", desc := "([C)V" } : Jvm.MethodName) jdk_42_method_3_code (2 : Nat) (Option.none : Option Jvm.ClassFile.FieldType)).before args0 about1 = true := code_word (m := ⟨7, 1⟩) (meth := k7m1) (c := k7c1) (by decide +kernel) rfl rfl rfl (by decide +kernel)
set_option maxRecDepth 65536 in
theorem w_c4 : (Jvm.Cond.code ({ cls := "java/lang/String", name := "<init>", desc := "([CIILjava/lang/Void;)V" } : Jvm.MethodName) jdk_42_method_149_code (6 : Nat) (Option.none : Option Jvm.ClassFile.FieldType)).before args0 about1 = true := code_word (m := ⟨7, 5⟩) (meth := k7m5) (c := k7c5) (by decide +kernel) rfl rfl rfl (by decide +kernel)
set_option maxRecDepth 65536 in
theorem w_c5 : (Jvm.Cond.code ({ cls := "java/lang/Object", name := "<init>", desc := "()V" } : Jvm.MethodName) object_method_1_code (1 : Nat) (Option.none : Option Jvm.ClassFile.FieldType)).before args0 about1 = true := code_word (m := ⟨0, 0⟩) (meth := k0m0) (c := k0c0) (by decide +kernel) rfl rfl rfl (by decide +kernel)
set_option maxRecDepth 65536 in
theorem w_c6 : (Jvm.Cond.code ({ cls := "com/example/label_lattice/labellattice/Range", name := "isWrittenAsRange", desc := "(Ljava/lang/String;)Z" } : Jvm.MethodName) prog_36_method_4_code (1 : Nat) (Option.some Jvm.ClassFile.FieldType.boolean)).before args0 about1 = true := code_word (m := ⟨9, 0⟩) (meth := k9m0) (c := k9c0) (by decide +kernel) rfl rfl rfl (by decide +kernel)
set_option maxRecDepth 65536 in
theorem w_c7 : (Jvm.Cond.code ({ cls := "java/lang/String", name := "indexOf", desc := "(I)I" } : Jvm.MethodName) jdk_42_method_79_code (2 : Nat) (Option.some Jvm.ClassFile.FieldType.int)).before args0 about1 = true := code_word (m := ⟨7, 3⟩) (meth := k7m3) (c := k7c3) (by decide +kernel) rfl rfl rfl (by decide +kernel)
set_option maxRecDepth 65536 in
theorem w_c8 : (Jvm.Cond.code ({ cls := "java/lang/String", name := "indexOf", desc := "(II)I" } : Jvm.MethodName) jdk_42_method_80_code (3 : Nat) (Option.some Jvm.ClassFile.FieldType.int)).before args0 about1 = true := code_word (m := ⟨7, 4⟩) (meth := k7m4) (c := k7c4) (by decide +kernel) rfl rfl rfl (by decide +kernel)
set_option maxRecDepth 65536 in
theorem w_c9 : (Jvm.Cond.code ({ cls := "java/lang/String", name := "isLatin1", desc := "()Z" } : Jvm.MethodName) jdk_42_method_154_code (1 : Nat) (Option.some Jvm.ClassFile.FieldType.boolean)).before args0 about1 = true := code_word (m := ⟨7, 7⟩) (meth := k7m7) (c := k7c7) (by decide +kernel) rfl rfl rfl (by decide +kernel)
set_option maxRecDepth 65536 in
theorem w_c10 : (Jvm.Cond.code ({ cls := "java/lang/String", name := "length", desc := "()I" } : Jvm.MethodName) jdk_42_method_54_code (1 : Nat) (Option.some Jvm.ClassFile.FieldType.int)).before args0 about1 = true := code_word (m := ⟨7, 2⟩) (meth := k7m2) (c := k7c2) (by decide +kernel) rfl rfl rfl (by decide +kernel)
set_option maxRecDepth 65536 in
theorem w_c11 : (Jvm.Cond.code ({ cls := "java/lang/String", name := "coder", desc := "()B" } : Jvm.MethodName) jdk_42_method_152_code (1 : Nat) (Option.some Jvm.ClassFile.FieldType.byte)).before args0 about1 = true := code_word (m := ⟨7, 6⟩) (meth := k7m6) (c := k7c6) (by decide +kernel) rfl rfl rfl (by decide +kernel)
set_option maxRecDepth 65536 in
theorem w_c12 : (Jvm.Cond.code ({ cls := "java/lang/StringLatin1", name := "indexOf", desc := "([BIII)I" } : Jvm.MethodName) jdk_43_method_22_code (4 : Nat) (Option.some Jvm.ClassFile.FieldType.int)).before args0 about1 = true := code_word (m := ⟨10, 2⟩) (meth := k10m2) (c := k10c2) (by decide +kernel) rfl rfl rfl (by decide +kernel)
set_option maxRecDepth 65536 in
theorem w_c13 : (Jvm.Cond.code ({ cls := "java/lang/StringLatin1", name := "canEncode", desc := "(I)Z" } : Jvm.MethodName) jdk_43_method_4_code (1 : Nat) (Option.some Jvm.ClassFile.FieldType.boolean)).before args0 about1 = true := code_word (m := ⟨10, 1⟩) (meth := k10m1) (c := k10c1) (by decide +kernel) rfl rfl rfl (by decide +kernel)
set_option maxRecDepth 65536 in
theorem w_c14 : (Jvm.Cond.code ({ cls := "java/lang/Math", name := "max", desc := "(II)I" } : Jvm.MethodName) jdk_29_method_65_code (2 : Nat) (Option.some Jvm.ClassFile.FieldType.int)).before args0 about1 = true := code_word (m := ⟨11, 1⟩) (meth := k11m1) (c := k11c1) (by decide +kernel) rfl rfl rfl (by decide +kernel)
set_option maxRecDepth 65536 in
theorem w_c15 : (Jvm.Cond.code ({ cls := "java/lang/Math", name := "min", desc := "(II)I" } : Jvm.MethodName) jdk_29_method_69_code (2 : Nat) (Option.some Jvm.ClassFile.FieldType.int)).before args0 about1 = true := code_word (m := ⟨11, 2⟩) (meth := k11m2) (c := k11c2) (by decide +kernel) rfl rfl rfl (by decide +kernel)
set_option maxRecDepth 65536 in
theorem w_c16 : (Jvm.Cond.code ({ cls := "java/lang/StringUTF16", name := "compress", desc := "([CII)[B" } : Jvm.MethodName) jdk_52_method_16_code (6 : Nat) (Option.some (Jvm.ClassFile.FieldType.array Jvm.ClassFile.FieldType.byte))).before args0 about1 = true := code_word (m := ⟨12, 8⟩) (meth := k12m8) (c := k12c8) (by decide +kernel) rfl rfl rfl (by decide +kernel)
set_option maxRecDepth 65536 in
theorem w_c17 : (Jvm.Cond.code ({ cls := "java/lang/StringUTF16", name := "compress", desc := "([CI[BII)I" } : Jvm.MethodName) jdk_52_method_21_code (7 : Nat) (Option.some Jvm.ClassFile.FieldType.int)).before args0 about1 = true := code_word (m := ⟨12, 9⟩) (meth := k12m9) (c := k12c9) (by decide +kernel) rfl rfl rfl (by decide +kernel)
set_option maxRecDepth 65536 in
theorem w_c18 : (Jvm.Cond.code ({ cls := "java/lang/StringUTF16", name := "coderFromArrayLen", desc := "([BI)B" } : Jvm.MethodName) jdk_52_method_15_code (2 : Nat) (Option.some Jvm.ClassFile.FieldType.byte)).before args0 about1 = true := code_word (m := ⟨12, 7⟩) (meth := k12m7) (c := k12c7) (by decide +kernel) rfl rfl rfl (by decide +kernel)
set_option maxRecDepth 65536 in
theorem w_c19 : (Jvm.Cond.code ({ cls := "java/lang/StringLatin1", name := "indexOfChar", desc := "([BIII)I" } : Jvm.MethodName) jdk_43_method_23_code (6 : Nat) (Option.some Jvm.ClassFile.FieldType.int)).before args0 about1 = true := code_word (m := ⟨10, 3⟩) (meth := k10m3) (c := k10c3) (by decide +kernel) rfl rfl rfl (by decide +kernel)
set_option maxRecDepth 65536 in
theorem w_c20 : (Jvm.Cond.code ({ cls := "java/lang/StringUTF16", name := "toBytes", desc := "([CII)[B" } : Jvm.MethodName) jdk_52_method_14_code (5 : Nat) (Option.some (Jvm.ClassFile.FieldType.array Jvm.ClassFile.FieldType.byte))).before args0 about1 = true := code_word (m := ⟨12, 6⟩) (meth := k12m6) (c := k12c6) (by decide +kernel) rfl rfl rfl (by decide +kernel)
set_option maxRecDepth 65536 in
theorem w_c21 : (Jvm.Cond.code ({ cls := "java/lang/StringUTF16", name := "newBytesFor", desc := "(I)[B" } : Jvm.MethodName) jdk_52_method_2_code (1 : Nat) (Option.some (Jvm.ClassFile.FieldType.array Jvm.ClassFile.FieldType.byte))).before args0 about1 = true := code_word (m := ⟨12, 1⟩) (meth := k12m1) (c := k12c1) (by decide +kernel) rfl rfl rfl (by decide +kernel)
set_option maxRecDepth 65536 in
theorem w_c22 : (Jvm.Cond.code ({ cls := "java/lang/StringUTF16", name := "newBytesLength", desc := "(I)I" } : Jvm.MethodName) jdk_52_method_3_code (1 : Nat) (Option.some Jvm.ClassFile.FieldType.int)).before args0 about1 = true := code_word (m := ⟨12, 2⟩) (meth := k12m2) (c := k12c2) (by decide +kernel) rfl rfl rfl (by decide +kernel)
set_option maxRecDepth 65536 in
theorem w_c23 : (Jvm.Cond.code ({ cls := "java/lang/StringUTF16", name := "putChar", desc := "([BII)V" } : Jvm.MethodName) jdk_52_method_4_code (3 : Nat) (Option.none : Option Jvm.ClassFile.FieldType)).before args0 about1 = true := code_word (m := ⟨12, 3⟩) (meth := k12m3) (c := k12c3) (by decide +kernel) rfl rfl rfl (by decide +kernel)
set_option maxRecDepth 65536 in
theorem w_c24 : (Jvm.Cond.code ({ cls := "java/lang/StringUTF16", name := "getChar", desc := "([BI)C" } : Jvm.MethodName) jdk_52_method_5_code (2 : Nat) (Option.some Jvm.ClassFile.FieldType.char)).before args0 about1 = true := code_word (m := ⟨12, 4⟩) (meth := k12m4) (c := k12c4) (by decide +kernel) rfl rfl rfl (by decide +kernel)
set_option maxRecDepth 65536 in
theorem w_c25 : (Jvm.Cond.code ({ cls := "java/lang/StringUTF16", name := "indexOf", desc := "([BIII)I" } : Jvm.MethodName) jdk_52_method_40_code (4 : Nat) (Option.some Jvm.ClassFile.FieldType.int)).before args0 about1 = true := code_word (m := ⟨12, 10⟩) (meth := k12m10) (c := k12c10) (by decide +kernel) rfl rfl rfl (by decide +kernel)
set_option maxRecDepth 65536 in
theorem w_c26 : (Jvm.Cond.code ({ cls := "java/lang/StringUTF16", name := "indexOfChar", desc := "([BIII)I" } : Jvm.MethodName) jdk_52_method_47_code (4 : Nat) (Option.some Jvm.ClassFile.FieldType.int)).before args0 about1 = true := code_word (m := ⟨12, 11⟩) (meth := k12m11) (c := k12c11) (by decide +kernel) rfl rfl rfl (by decide +kernel)
set_option maxRecDepth 65536 in
theorem w_c27 : (Jvm.Cond.code ({ cls := "java/lang/StringUTF16", name := "checkBoundsBeginEnd", desc := "(II[B)V" } : Jvm.MethodName) jdk_52_method_93_code (3 : Nat) (Option.none : Option Jvm.ClassFile.FieldType)).before args0 about1 = true := code_word (m := ⟨12, 13⟩) (meth := k12m13) (c := k12c13) (by decide +kernel) rfl rfl rfl (by decide +kernel)
set_option maxRecDepth 65536 in
theorem w_c28 : (Jvm.Cond.code ({ cls := "java/lang/StringUTF16", name := "length", desc := "([B)I" } : Jvm.MethodName) jdk_52_method_6_code (1 : Nat) (Option.some Jvm.ClassFile.FieldType.int)).before args0 about1 = true := code_word (m := ⟨12, 5⟩) (meth := k12m5) (c := k12c5) (by decide +kernel) rfl rfl rfl (by decide +kernel)
set_option maxRecDepth 65536 in
theorem w_c29 : (Jvm.Cond.code ({ cls := "java/lang/String", name := "checkBoundsBeginEnd", desc := "(III)V" } : Jvm.MethodName) jdk_42_method_158_code (3 : Nat) (Option.none : Option Jvm.ClassFile.FieldType)).before args0 about1 = true := code_word (m := ⟨7, 8⟩) (meth := k7m8) (c := k7c8) (by decide +kernel) rfl rfl rfl (by decide +kernel)
set_option maxRecDepth 65536 in
theorem w_c30 : (Jvm.Cond.code ({ cls := "jdk/internal/util/Preconditions", name := "checkFromToIndex", desc := "(IIILjava/util/function/BiFunction;)I" } : Jvm.MethodName) jdk_41_method_12_code (4 : Nat) (Option.some Jvm.ClassFile.FieldType.int)).before args0 about1 = true := code_word (m := ⟨13, 1⟩) (meth := k13m1) (c := k13c1) (by decide +kernel) rfl rfl rfl (by decide +kernel)
set_option maxRecDepth 65536 in
theorem w_c31 : (Jvm.Cond.code ({ cls := "java/lang/StringUTF16", name := "indexOfCharUnsafe", desc := "([BIII)I" } : Jvm.MethodName) jdk_52_method_48_code (5 : Nat) (Option.some Jvm.ClassFile.FieldType.int)).before args0 about1 = true := code_word (m := ⟨12, 12⟩) (meth := k12m12) (c := k12c12) (by decide +kernel) rfl rfl rfl (by decide +kernel)
def codes1 : List Jvm.Cond := [Jvm.Cond.code x code maxLocals ret, Jvm.Cond.code ({ cls := "com/example/label_lattice/labellattice/RangeIsWrittenAsRangePinLaw", name := "ch", desc := "(I)C" } : Jvm.MethodName) method_2_code (1 : Nat) (Option.some Jvm.ClassFile.FieldType.char), Jvm.Cond.code ({ cls := "com/example/label_lattice/labellattice/RangeIsWrittenAsRangePinLaw", name := "make", desc := "(ICCCC)Ljava/lang/String;" } : Jvm.MethodName) method_3_code (5 : Nat) (Option.some (Jvm.ClassFile.FieldType.object "java/lang/String")), Jvm.Cond.code ({ cls := "java/lang/String", name := "<init>", desc := "([C)V" } : Jvm.MethodName) jdk_42_method_3_code (2 : Nat) (Option.none : Option Jvm.ClassFile.FieldType), Jvm.Cond.code ({ cls := "java/lang/String", name := "<init>", desc := "([CIILjava/lang/Void;)V" } : Jvm.MethodName) jdk_42_method_149_code (6 : Nat) (Option.none : Option Jvm.ClassFile.FieldType), Jvm.Cond.code ({ cls := "java/lang/Object", name := "<init>", desc := "()V" } : Jvm.MethodName) object_method_1_code (1 : Nat) (Option.none : Option Jvm.ClassFile.FieldType), Jvm.Cond.code ({ cls := "com/example/label_lattice/labellattice/Range", name := "isWrittenAsRange", desc := "(Ljava/lang/String;)Z" } : Jvm.MethodName) prog_36_method_4_code (1 : Nat) (Option.some Jvm.ClassFile.FieldType.boolean), Jvm.Cond.code ({ cls := "java/lang/String", name := "indexOf", desc := "(I)I" } : Jvm.MethodName) jdk_42_method_79_code (2 : Nat) (Option.some Jvm.ClassFile.FieldType.int), Jvm.Cond.code ({ cls := "java/lang/String", name := "indexOf", desc := "(II)I" } : Jvm.MethodName) jdk_42_method_80_code (3 : Nat) (Option.some Jvm.ClassFile.FieldType.int), Jvm.Cond.code ({ cls := "java/lang/String", name := "isLatin1", desc := "()Z" } : Jvm.MethodName) jdk_42_method_154_code (1 : Nat) (Option.some Jvm.ClassFile.FieldType.boolean), Jvm.Cond.code ({ cls := "java/lang/String", name := "length", desc := "()I" } : Jvm.MethodName) jdk_42_method_54_code (1 : Nat) (Option.some Jvm.ClassFile.FieldType.int), Jvm.Cond.code ({ cls := "java/lang/String", name := "coder", desc := "()B" } : Jvm.MethodName) jdk_42_method_152_code (1 : Nat) (Option.some Jvm.ClassFile.FieldType.byte), Jvm.Cond.code ({ cls := "java/lang/StringLatin1", name := "indexOf", desc := "([BIII)I" } : Jvm.MethodName) jdk_43_method_22_code (4 : Nat) (Option.some Jvm.ClassFile.FieldType.int), Jvm.Cond.code ({ cls := "java/lang/StringLatin1", name := "canEncode", desc := "(I)Z" } : Jvm.MethodName) jdk_43_method_4_code (1 : Nat) (Option.some Jvm.ClassFile.FieldType.boolean), Jvm.Cond.code ({ cls := "java/lang/Math", name := "max", desc := "(II)I" } : Jvm.MethodName) jdk_29_method_65_code (2 : Nat) (Option.some Jvm.ClassFile.FieldType.int), Jvm.Cond.code ({ cls := "java/lang/Math", name := "min", desc := "(II)I" } : Jvm.MethodName) jdk_29_method_69_code (2 : Nat) (Option.some Jvm.ClassFile.FieldType.int), Jvm.Cond.code ({ cls := "java/lang/StringUTF16", name := "compress", desc := "([CII)[B" } : Jvm.MethodName) jdk_52_method_16_code (6 : Nat) (Option.some (Jvm.ClassFile.FieldType.array Jvm.ClassFile.FieldType.byte)), Jvm.Cond.code ({ cls := "java/lang/StringUTF16", name := "compress", desc := "([CI[BII)I" } : Jvm.MethodName) jdk_52_method_21_code (7 : Nat) (Option.some Jvm.ClassFile.FieldType.int), Jvm.Cond.code ({ cls := "java/lang/StringUTF16", name := "coderFromArrayLen", desc := "([BI)B" } : Jvm.MethodName) jdk_52_method_15_code (2 : Nat) (Option.some Jvm.ClassFile.FieldType.byte), Jvm.Cond.code ({ cls := "java/lang/StringLatin1", name := "indexOfChar", desc := "([BIII)I" } : Jvm.MethodName) jdk_43_method_23_code (6 : Nat) (Option.some Jvm.ClassFile.FieldType.int), Jvm.Cond.code ({ cls := "java/lang/StringUTF16", name := "toBytes", desc := "([CII)[B" } : Jvm.MethodName) jdk_52_method_14_code (5 : Nat) (Option.some (Jvm.ClassFile.FieldType.array Jvm.ClassFile.FieldType.byte)), Jvm.Cond.code ({ cls := "java/lang/StringUTF16", name := "newBytesFor", desc := "(I)[B" } : Jvm.MethodName) jdk_52_method_2_code (1 : Nat) (Option.some (Jvm.ClassFile.FieldType.array Jvm.ClassFile.FieldType.byte)), Jvm.Cond.code ({ cls := "java/lang/StringUTF16", name := "newBytesLength", desc := "(I)I" } : Jvm.MethodName) jdk_52_method_3_code (1 : Nat) (Option.some Jvm.ClassFile.FieldType.int), Jvm.Cond.code ({ cls := "java/lang/StringUTF16", name := "putChar", desc := "([BII)V" } : Jvm.MethodName) jdk_52_method_4_code (3 : Nat) (Option.none : Option Jvm.ClassFile.FieldType), Jvm.Cond.code ({ cls := "java/lang/StringUTF16", name := "getChar", desc := "([BI)C" } : Jvm.MethodName) jdk_52_method_5_code (2 : Nat) (Option.some Jvm.ClassFile.FieldType.char), Jvm.Cond.code ({ cls := "java/lang/StringUTF16", name := "indexOf", desc := "([BIII)I" } : Jvm.MethodName) jdk_52_method_40_code (4 : Nat) (Option.some Jvm.ClassFile.FieldType.int), Jvm.Cond.code ({ cls := "java/lang/StringUTF16", name := "indexOfChar", desc := "([BIII)I" } : Jvm.MethodName) jdk_52_method_47_code (4 : Nat) (Option.some Jvm.ClassFile.FieldType.int), Jvm.Cond.code ({ cls := "java/lang/StringUTF16", name := "checkBoundsBeginEnd", desc := "(II[B)V" } : Jvm.MethodName) jdk_52_method_93_code (3 : Nat) (Option.none : Option Jvm.ClassFile.FieldType), Jvm.Cond.code ({ cls := "java/lang/StringUTF16", name := "length", desc := "([B)I" } : Jvm.MethodName) jdk_52_method_6_code (1 : Nat) (Option.some Jvm.ClassFile.FieldType.int), Jvm.Cond.code ({ cls := "java/lang/String", name := "checkBoundsBeginEnd", desc := "(III)V" } : Jvm.MethodName) jdk_42_method_158_code (3 : Nat) (Option.none : Option Jvm.ClassFile.FieldType), Jvm.Cond.code ({ cls := "jdk/internal/util/Preconditions", name := "checkFromToIndex", desc := "(IIILjava/util/function/BiFunction;)I" } : Jvm.MethodName) jdk_41_method_12_code (4 : Nat) (Option.some Jvm.ClassFile.FieldType.int), Jvm.Cond.code ({ cls := "java/lang/StringUTF16", name := "indexOfCharUnsafe", desc := "([BIII)I" } : Jvm.MethodName) jdk_52_method_48_code (5 : Nat) (Option.some Jvm.ClassFile.FieldType.int)]
set_option maxRecDepth 65536 in
theorem codes_eq : words1.filter isCode = codes1 := rfl
theorem w_codes : ∀ c ∈ words1.filter isCode, c.before args0 about1 = true := by
  rw [codes_eq]
  intro c hc
  simp only [codes1, List.mem_cons, List.not_mem_nil, or_false] at hc
  rcases hc with rfl | rfl | rfl | rfl | rfl | rfl | rfl | rfl | rfl | rfl | rfl | rfl | rfl | rfl | rfl | rfl | rfl | rfl | rfl | rfl | rfl | rfl | rfl | rfl | rfl | rfl | rfl | rfl | rfl | rfl | rfl | rfl
  · exact w_c0
  · exact w_c1
  · exact w_c2
  · exact w_c3
  · exact w_c4
  · exact w_c5
  · exact w_c6
  · exact w_c7
  · exact w_c8
  · exact w_c9
  · exact w_c10
  · exact w_c11
  · exact w_c12
  · exact w_c13
  · exact w_c14
  · exact w_c15
  · exact w_c16
  · exact w_c17
  · exact w_c18
  · exact w_c19
  · exact w_c20
  · exact w_c21
  · exact w_c22
  · exact w_c23
  · exact w_c24
  · exact w_c25
  · exact w_c26
  · exact w_c27
  · exact w_c28
  · exact w_c29
  · exact w_c30
  · exact w_c31
set_option maxRecDepth 65536 in
theorem w_t1 : (words1.take 24).all (fun c => isCode c || c.before args0 about1) = true := by decide +kernel
set_option maxRecDepth 65536 in
theorem w_t2 : ((words1.drop 24).take 24).all (fun c => isCode c || c.before args0 about1) = true := by decide +kernel
set_option maxRecDepth 65536 in
theorem w_t3 : (((words1.drop 24).drop 24).take 24).all (fun c => isCode c || c.before args0 about1) = true := by decide +kernel
set_option maxRecDepth 65536 in
theorem w_t4 : ((((words1.drop 24).drop 24).drop 24).take 24).all (fun c => isCode c || c.before args0 about1) = true := by decide +kernel
set_option maxRecDepth 65536 in
theorem w_t5 : (((((words1.drop 24).drop 24).drop 24).drop 24).take 24).all (fun c => isCode c || c.before args0 about1) = true := by decide +kernel
set_option maxRecDepth 65536 in
theorem w_t6 : (((((words1.drop 24).drop 24).drop 24).drop 24).drop 24).all (fun c => isCode c || c.before args0 about1) = true := by decide +kernel
theorem w_tables : (allAtoms (Jvm.Cond.code x code maxLocals ret :: tables_1)).before args0 about1 = true := by
  rw [allAtoms_all]
  show words1.all (fun c => c.before args0 about1) = true
  refine all_split ?_ w_codes
  rw [← List.take_append_drop 24 words1, List.all_append, w_t1, ← List.take_append_drop 24 (words1.drop 24), List.all_append, w_t2, ← List.take_append_drop 24 ((words1.drop 24).drop 24), List.all_append, w_t3, ← List.take_append_drop 24 (((words1.drop 24).drop 24).drop 24), List.all_append, w_t4, ← List.take_append_drop 24 ((((words1.drop 24).drop 24).drop 24).drop 24), List.all_append, w_t5, w_t6]
  rfl
set_option maxRecDepth 65536 in
theorem w_rest : rest_1_c.before args0 about1 = true := by decide +kernel
set_option maxRecDepth 65536 in
theorem w_case : (Jvm.Cond.and given_1 narrow_1).before args0 about1 = true := by decide +kernel
set_option maxRecDepth 65536 in
theorem w_consts : constsHeld consts_1 about1 := Jvm.Lit.constsHeldB_iff.mp (by decide +kernel)
theorem w_applies : (headSpec (Jvm.Cond.code x code maxLocals ret :: tables_1) room_1).applies x e0.platform about1 = true :=
  (Spec.applies_iff w_frames).mpr ⟨w_running, w_runnable, w_alone, w_named, w_hears, w_ripe, w_room, w_tables⟩
theorem atStart : AtStart classFile x code maxLocals ret World_1 tables_1 room_1 Calls_1 rest_1 Pre_1 launch0 p0 e0 about1 theMethod args0 below0 :=
  ⟨lists_1, trivial, launch0.admits_env _ _ _, launch0.least_env, fairChoices_fair.cas, fairChoices_fair.clock, w_frames, w_args, w_heap, w_applies, ⟨w_consts, trivial⟩, w_rest, w_case⟩
end start1
theorem witness_1 : WitnessClaimed_1 := ⟨start1.p0, start1.e0, start1.about1, start1.theMethod, start1.args0, start1.below0, start1.atStart⟩
end Jvm.Pilot.@@N@@
