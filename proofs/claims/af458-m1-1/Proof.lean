import JvmDerived
import JvmDerived.Pilot.@@N@@Statement
import JvmDerived.Pilot.@@N@@Code
set_option linter.unusedVariables false
set_option linter.unusedSimpArgs false
namespace Jvm.Pilot.@@N@@
open Jvm Jvm.ClassFile Sem Op Lib Jvm.Free Jvm.Stand Jvm.LawKit Jvm.RoadKit Bundle Jvm.Pilot.@@N@@.Jvm.D
theorem own_cat {v : Value} (h : v.isRef = true) : v.category = 1 := by cases v <;> first | rfl | (simp [Value.isRef] at h)
theorem own_cell {h h' : Heap} {a : Addr} {c : Cell} (e : h' = h) (q : h[a]? = some c) : h'[a]? = some c := by rw [e]; exact q
theorem own_W {Z : State} {a0 : Array Value} (hw : ∀ d ∈ tables_1, d.before a0 Z = true) (i : Nat) {d : Jvm.Cond} (h : tables_1[i]? = some d) : d.before a0 Z = true := hw d (List.mem_of_getElem? h)
theorem own_ble {a b : Nat} (h : Nat.ble a b = true) : a ≤ b := Nat.le_of_ble_eq_true h
theorem own_cr (a : Addr) : (Value.ref a).category = 1 := rfl
theorem own_ci (a : Int32) : (Value.int a).category = 1 := rfl
theorem own_cj (a : Int64) : (Value.long a).category = 2 := rfl
theorem own_cn : Value.null.category = 1 := rfl
theorem own_nar {v : Value} {t : FieldType} (ht : t.isReference = true) (h : v.isRef = true) : narrow t v = v := by
  rcases ref_cases h with rfl | ⟨a, rfl⟩ <;> cases t <;> first | rfl | (simp [FieldType.isReference] at ht)
theorem own_fits {v : Value} {t : FieldType} (ht : t.isReference = true) (h : v.isRef = true) : fits t v = true := by
  rcases ref_cases h with rfl | ⟨a, rfl⟩ <;> cases t <;> first | rfl | (simp [FieldType.isReference] at ht)
theorem own_store {l l' : Array Slot} {i : Nat} {v : Value} {o : Slot} (hold : l[i]? = some o) (ho : o = .unset ∨ ∃ w, o = .val w ∧ w.category = 1) (hv : v.category = 1) (e : l.setIfInBounds i (.val v) = l') : storeLocals l i v = some l' := by
  rw [Jvm.Free.XS.store1 hold ho hv, e]
def Glob (Z : State) (a0 : Array Value) (ns : Addr) : Prop := (∀ d ∈ tables_1, d.before a0 Z = true) ∧ (Sta Z Z.heap "java/util/concurrent/TimeUnit" "NANOSECONDS" "Ljava/util/concurrent/TimeUnit;" (.ref ns)) ∧ (Exa Z Z.heap ns "java/util/concurrent/TimeUnit") ∧ (Fld Z Z.heap ns "java/util/concurrent/TimeUnit" "scale" "J" (.long (1 : Int64))) ∧ (Fld Z Z.heap ns "java/util/concurrent/TimeUnit" "milliRatio" "I" (.int (1000000 : Int32)))
theorem getFR {p : Program} {l : Launch} {e : Env} {R : Room} {s : State} {m : MethodId} {args : Array Value} {below : List Frame} {meth : Method} {c : Code} {T : State} {locs : List Loc} {cells slots : Nat} {Z : State} {a0 : Array Value} {h : Heap}
    (X : Stand p l e R s m args below meth c T locs cells slots) (hx : p.tables.exec = Jvm.exec) (hZ : Z.Warmed39 s.vm) {own O n d : String} {index : Nat} (hown : s.vm.findClass own = some m.cls) (w : (Jvm.Cond.fieldRef own index O n d).before a0 Z = true)
    (eT : T.heap = h) {a : Addr} {v : Value} (F : Fld Z h a O n d v) {g : JFrame} (hg : g.method = m) {rest : List Value} (hs : g.stack = .ref a :: rest) (hd : decode c.code g.pc = .ok (.getfield index, 3)) (target : State)
    (hr : Steps p.tables e below (T.setTop { g with pc := g.pc + 3, stack := v :: rest }) target) : Steps p.tables e below (T.setTop g) target := by
  obtain ⟨cell, cf, k, i, f, h1, h2, h3, h4, h5, h6, h7⟩ := F
  have hT : Z.Warmed39 T.vm := wtrans hZ X.warmed
  have w' := Cond.fieldRef_warmed39 hT w
  have hown' : (Z.setVm T.vm).vm.findClass own = some m.cls := by
    show T.vm.findClass own = _
    rw [X.warmed.alike.findClass]; exact hown
  obtain ⟨k', hi, -⟩ := State.fieldFound?_setVm (s := Z) hT.alike h2
  obtain ⟨c2, k2, i2, f2, hi2, hready⟩ := Cond.fieldRef_spec hown' w'
  cases hi.symm.trans hi2
  subst hg
  jvm_step X.here [X.here.top, hx, hd, getfield.wp_ready (e := e) (s := T) (f := g) X.here.top hready h3 hs (show T.heap[a]? = some cell by rw [eT]; exact h1) h4 h7]
  exact hr
def own_avg (t n : Int64) : Int64 := if n = 0 then 0 else (t / n) / ((1000000 : Int32).toInt64)
theorem own_avg0 {t n : Int64} (h : n = 0) : own_avg t n = 0 := if_pos h
theorem own_avg1 {t n : Int64} (h : ¬ n = 0) : own_avg t n = (t / n) / ((1000000 : Int32).toInt64) := if_neg h
theorem own_million : (1000000 : Int32).toInt64 = (1000000 : Int64) := by decide +kernel
theorem own_avg_eq {t n d : Int64} (h : ¬ n = 0) (e : n = d) : own_avg t n = t / d / (1000000 : Int64) := by subst e; rw [own_avg1 h, own_million]
theorem own_and3 (x : Int32) : x &&& 3 = 0 ∨ x &&& 3 = 1 ∨ x &&& 3 = 2 ∨ x &&& 3 = 3 := by
  have t : ∀ k : Fin 4, Int32.ofNat k.val = 0 ∨ Int32.ofNat k.val = 1 ∨ Int32.ofNat k.val = 2 ∨ Int32.ofNat k.val = 3 := by decide +kernel
  have h : (x &&& 3).toBitVec.toNat < 4 := by
    simp only [Int32.toBitVec_and, BitVec.toNat_and]
    exact Nat.lt_succ_of_le Nat.and_le_right
  have e : (x &&& 3) = Int32.ofNat (x &&& 3).toBitVec.toNat := by
    apply Int32.toBitVec_inj.mp
    show _ = BitVec.ofNat 32 _
    rw [BitVec.ofNat_toNat]; simp
  rw [e]
  exact t ⟨_, h⟩
theorem dx_jdk_2799_method_9_code_0 : decode jdk_2799_method_9_code 0 = .ok (.aload_n 0, 1) := by decide +kernel
theorem dx_jdk_2799_method_9_code_1 : decode jdk_2799_method_9_code 1 = .ok (.getfield 44, 3) := by decide +kernel
theorem dx_jdk_2799_method_9_code_4 : decode jdk_2799_method_9_code 4 = .ok (.dup2, 1) := by decide +kernel
theorem dx_jdk_2799_method_9_code_5 : decode jdk_2799_method_9_code 5 = .ok (.lstore_n 3, 1) := by decide +kernel
theorem dx_jdk_2799_method_9_code_6 : decode jdk_2799_method_9_code 6 = .ok (.ldc2_w 63, 3) := by decide +kernel
theorem dx_jdk_2799_method_9_code_9 : decode jdk_2799_method_9_code 9 = .ok (.lcmp, 1) := by decide +kernel
theorem dx_jdk_2799_method_9_code_10 : decode jdk_2799_method_9_code 10 = .ok (.ifCond .gt 23, 3) := by decide +kernel
theorem dx_jdk_2799_method_9_code_13 : decode jdk_2799_method_9_code 13 = .ok (.lload_n 3, 1) := by decide +kernel
theorem dx_jdk_2799_method_9_code_14 : decode jdk_2799_method_9_code 14 = .ok (.ldc2_w 63, 3) := by decide +kernel
theorem dx_jdk_2799_method_9_code_17 : decode jdk_2799_method_9_code 17 = .ok (.lcmp, 1) := by decide +kernel
theorem dx_jdk_2799_method_9_code_18 : decode jdk_2799_method_9_code 18 = .ok (.ifCond .ne 7, 3) := by decide +kernel
theorem dx_jdk_2799_method_9_code_25 : decode jdk_2799_method_9_code 25 = .ok (.lload_n 1, 1) := by decide +kernel
theorem dx_jdk_2799_method_9_code_26 : decode jdk_2799_method_9_code 26 = .ok (.aload_n 0, 1) := by decide +kernel
theorem dx_jdk_2799_method_9_code_27 : decode jdk_2799_method_9_code 27 = .ok (.getfield 65, 3) := by decide +kernel
theorem dx_jdk_2799_method_9_code_30 : decode jdk_2799_method_9_code 30 = .ok (.i2l, 1) := by decide +kernel
theorem dx_jdk_2799_method_9_code_31 : decode jdk_2799_method_9_code 31 = .ok (.ldiv, 1) := by decide +kernel
theorem dx_jdk_2799_method_9_code_32 : decode jdk_2799_method_9_code 32 = .ok (.lreturn, 1) := by decide +kernel
def Qms (Z : State) (ns : Addr) (q : Int64) (h0 : Heap) (n0 : Nat) (v : Option Value) (h : Heap) (L : List Loc) : Prop := v = some (.long (q / ((1000000 : Int32).toInt64))) ∧ Fr n0 L ∧ h = h0
theorem ef_jdk_2799_method_9_code_RJ (m : MethodId) (x0 : Addr) (x1 : Int64) : entryFrame m #[(.ref x0), (.long x1)] 7 = mkF m 0 #[.val (.ref x0), .val (.long x1), .second, .unset, .unset, .unset, .unset] [] := by first | (simp [entryFrame, mkF, argsToLocals, Value.category]; done) | rfl
abbrev y0 : MethodName := ⟨"java/util/concurrent/TimeUnit", "toMillis", "(J)J"⟩
theorem pn_java_util_concurrent_TimeUnit : plainName "java/util/concurrent/TimeUnit" = true := by first | (simp [plainName, overriddenIn]; done) | decide +kernel
set_option maxRecDepth 65536 in
set_option maxHeartbeats 40000000 in
theorem rmms (l : Launch) (Z : State) (a0 : Array Value) (ns : Addr) (hG : Glob Z a0 ns) (ws : List Jvm.Cond) (q : Int64) (h0 : Heap) (n0 : Nat) (Z0 : n0 ≤ h0.size) (X00 : Old Z n0 h0) :
    MetFree l y0 (head1 (Jvm.Cond.code y0 jdk_2799_method_9_code 7 (some .long) :: ws) ({ frames := 0, cells := 0, slots := 0, locals := 0 } : Room)) (fun a U => a = #[(.ref ns), (.long q)] ∧ Z.Warmed39 U.vm ∧ U.heap = h0) (fun _ _ _ _ _ => True) (fun _ U o U' => ∃ v L, o = .returned v ∧ Qms Z ns q h0 n0 v U'.heap L ∧ FrameEnd U o U' L ({ frames := 0, cells := 0, slots := 0, locals := 0 } : Room).cells ({ frames := 0, cells := 0, slots := 0, locals := 0 } : Room).slots) := by
  obtain ⟨hw, O_ns, O_ens, O_scale, O_ratio⟩ := id hG
  have W : ∀ (i : Nat) {d : Jvm.Cond}, tables_1[i]? = some d → d.before a0 Z = true := fun i d h => hw d (List.mem_of_getElem? h)
  refine MetFree.of_bodySF (plainFor_of_name pn_java_util_concurrent_TimeUnit) hisR ?_
  intro p e s m args below meth c s₁ Bd hml0 hP hK
  obtain ⟨rfl, hZ, hh⟩ := hP
  have hx := Bd.exec
  have hby := Bd.bytes
  have hml : c.maxLocals = 7 := hml0
  have hown : s.vm.findClass "java/util/concurrent/TimeUnit" = some m.cls := findClass_of_methodNamed Bd.named
  have hnm := (name_of_methodNamed Bd.named Bd.method).1
  have X0 : Stand p l e ({ frames := 0, cells := 0, slots := 0, locals := 0 } : Room) s m #[(.ref ns), (.long q)] below meth c s₁ [] 0 0 := Stand.of_body Bd
  have e0 : s₁.heap = h0 := by rw [← hh, Bd.state]; rfl
  have N0 := Fr.nil n0
  have pre0 : ∀ t, Steps p.tables e below (s₁.setTop (mkF m 0 #[.val (.ref ns), .val (.long q), .second, .unset, .unset, .unset, .unset] [])) t → Steps p.tables e below (s₁.setTop (entryFrame m #[(.ref ns), (.long q)] 7)) t := fun t kk_ => castTop (ef_jdk_2799_method_9_code_RJ m ns q) kk_
  obtain ⟨T1, X1, e1, st1⟩ := getF X0 hx hZ hown (host := "") (Or.inl (W 75 rfl)) Via.refl e0 (O_scale.ext X00.2) (g := (mkF m 1 #[.val (.ref ns), .val (.long q), .second, .unset, .unset, .unset, .unset] [(.ref ns)])) rfl rfl (hb hby dx_jdk_2799_method_9_code_1)
  obtain ⟨T2, X2, e2, st2⟩ := getF X1 hx hZ hown (host := "") (Or.inl (W 78 rfl)) Via.refl e1 (O_ratio.ext X00.2) (g := (mkF m 27 #[.val (.ref ns), .val (.long q), .second, .val (.long (1 : Int64)), .second, .unset, .unset] [(.ref ns), (.long q)])) rfl rfl (hb hby dx_jdk_2799_method_9_code_27)
  obtain ⟨fs, hr, hrun, hended, hW, hsame⟩ := X2.leave (v := some (.long (q / ((1000000 : Int32).toInt64)))) (fun h => by rw [Bd.returns] at h; cases h)
  refine ⟨_, _, pre0 _ ?_, hrun, hended, _, _, rfl, ?_, ⟨_, rfl⟩, hW, hsame.mono (Nat.le_of_ble_eq_true rfl) (Nat.le_of_ble_eq_true rfl)⟩
  · show Steps p.tables e below (s₁.setTop (mkF m 0 #[.val (.ref ns), .val (.long q), .second, .unset, .unset, .unset, .unset] [])) _
    refine XS.aloadN X0.here hx rfl (hb hby dx_jdk_2799_method_9_code_0) rfl rfl ?_
    show Steps p.tables e below (s₁.setTop (mkF m 1 #[.val (.ref ns), .val (.long q), .second, .unset, .unset, .unset, .unset] [(.ref ns)])) _
    refine st1 _ ?_
    show Steps p.tables e below (T1.setTop (mkF m 4 #[.val (.ref ns), .val (.long q), .second, .unset, .unset, .unset, .unset] [(.long (1 : Int64))])) _
    refine Jvm.Free.XT.dup2L X1.here hx rfl (hb hby dx_jdk_2799_method_9_code_4) rfl ?_
    show Steps p.tables e below (T1.setTop (mkF m 5 #[.val (.ref ns), .val (.long q), .second, .unset, .unset, .unset, .unset] [(.long (1 : Int64)), (.long (1 : Int64))])) _
    refine XS.lstoreN X1.here hx rfl (hb hby dx_jdk_2799_method_9_code_5) rfl (l' := #[.val (.ref ns), .val (.long q), .second, .val (.long (1 : Int64)), .second, .unset, .unset]) rfl ?_
    show Steps p.tables e below (T1.setTop (mkF m 6 #[.val (.ref ns), .val (.long q), .second, .val (.long (1 : Int64)), .second, .unset, .unset] [(.long (1 : Int64))])) _
    refine X1.ldc2Long hx hown (mvT hZ (W 77 rfl)) (g := (mkF m 6 #[.val (.ref ns), .val (.long q), .second, .val (.long (1 : Int64)), .second, .unset, .unset] [(.long (1 : Int64))])) rfl (hb hby dx_jdk_2799_method_9_code_6) _ ?_
    show Steps p.tables e below (T1.setTop (mkF m 9 #[.val (.ref ns), .val (.long q), .second, .val (.long (1 : Int64)), .second, .unset, .unset] [(.long (1000000 : Int64)), (.long (1 : Int64))])) _
    refine XS.lcmp X1.here hx rfl (hb hby dx_jdk_2799_method_9_code_9) rfl ?_
    show Steps p.tables e below (T1.setTop (mkF m 10 #[.val (.ref ns), .val (.long q), .second, .val (.long (1 : Int64)), .second, .unset, .unset] [(.int (lcmpW (1 : Int64) (1000000 : Int64)))])) _
    refine XS.ifNo X1.here hx rfl (hb hby dx_jdk_2799_method_9_code_10) rfl ((if0 _ _).trans (flt (by decide : ¬ ((0 : Int32) < (lcmpW (1 : Int64) (1000000 : Int64))))).2.2.1) ?_
    show Steps p.tables e below (T1.setTop (mkF m 13 #[.val (.ref ns), .val (.long q), .second, .val (.long (1 : Int64)), .second, .unset, .unset] [])) _
    refine XS.lloadN X1.here hx rfl (hb hby dx_jdk_2799_method_9_code_13) rfl ?_
    show Steps p.tables e below (T1.setTop (mkF m 14 #[.val (.ref ns), .val (.long q), .second, .val (.long (1 : Int64)), .second, .unset, .unset] [(.long (1 : Int64))])) _
    refine X1.ldc2Long hx hown (mvT hZ (W 77 rfl)) (g := (mkF m 14 #[.val (.ref ns), .val (.long q), .second, .val (.long (1 : Int64)), .second, .unset, .unset] [(.long (1 : Int64))])) rfl (hb hby dx_jdk_2799_method_9_code_14) _ ?_
    show Steps p.tables e below (T1.setTop (mkF m 17 #[.val (.ref ns), .val (.long q), .second, .val (.long (1 : Int64)), .second, .unset, .unset] [(.long (1000000 : Int64)), (.long (1 : Int64))])) _
    refine XS.lcmp X1.here hx rfl (hb hby dx_jdk_2799_method_9_code_17) rfl ?_
    show Steps p.tables e below (T1.setTop (mkF m 18 #[.val (.ref ns), .val (.long q), .second, .val (.long (1 : Int64)), .second, .unset, .unset] [(.int (lcmpW (1 : Int64) (1000000 : Int64)))])) _
    refine XS.ifYes X1.here hx rfl (pc0 := 18) (pc' := 25) rfl (hb hby dx_jdk_2799_method_9_code_18) rfl ((if0 _ _).trans (feq (by decide : ¬ ((lcmpW (1 : Int64) (1000000 : Int64)) = (0 : Int32)))).2) (by decide) (by decide) ?_
    show Steps p.tables e below (T1.setTop (mkF m 25 #[.val (.ref ns), .val (.long q), .second, .val (.long (1 : Int64)), .second, .unset, .unset] [])) _
    refine XS.lloadN X1.here hx rfl (hb hby dx_jdk_2799_method_9_code_25) rfl ?_
    show Steps p.tables e below (T1.setTop (mkF m 26 #[.val (.ref ns), .val (.long q), .second, .val (.long (1 : Int64)), .second, .unset, .unset] [(.long q)])) _
    refine XS.aloadN X1.here hx rfl (hb hby dx_jdk_2799_method_9_code_26) rfl rfl ?_
    show Steps p.tables e below (T1.setTop (mkF m 27 #[.val (.ref ns), .val (.long q), .second, .val (.long (1 : Int64)), .second, .unset, .unset] [(.ref ns), (.long q)])) _
    refine st2 _ ?_
    show Steps p.tables e below (T2.setTop (mkF m 30 #[.val (.ref ns), .val (.long q), .second, .val (.long (1 : Int64)), .second, .unset, .unset] [(.int (1000000 : Int32)), (.long q)])) _
    refine XS.i2l X2.here hx rfl (hb hby dx_jdk_2799_method_9_code_30) rfl ?_
    show Steps p.tables e below (T2.setTop (mkF m 31 #[.val (.ref ns), .val (.long q), .second, .val (.long (1 : Int64)), .second, .unset, .unset] [(.long ((1000000 : Int32).toInt64)), (.long q)])) _
    refine XS.ldiv X2.here hx rfl (hb hby dx_jdk_2799_method_9_code_31) rfl (by decide) ?_
    show Steps p.tables e below (T2.setTop (mkF m 32 #[.val (.ref ns), .val (.long q), .second, .val (.long (1 : Int64)), .second, .unset, .unset] [(.long (q / ((1000000 : Int32).toInt64)))])) _
    exact retOut X2 hx Bd.returns rfl (Or.inr (Or.inl ⟨rfl, rfl, _, rfl⟩)) (hb hby dx_jdk_2799_method_9_code_32) hr
  · show Qms Z ns q h0 n0 _ T2.heap _
    rw [e2]
    exact ⟨rfl, N0, rfl⟩
theorem dx_prog_16_method_2_code_0 : decode prog_16_method_2_code 0 = .ok (.lload_n 2, 1) := by decide +kernel
theorem dx_prog_16_method_2_code_1 : decode prog_16_method_2_code 1 = .ok (.lconst 0, 1) := by decide +kernel
theorem dx_prog_16_method_2_code_2 : decode prog_16_method_2_code 2 = .ok (.lcmp, 1) := by decide +kernel
theorem dx_prog_16_method_2_code_3 : decode prog_16_method_2_code 3 = .ok (.ifCond .ne 7, 3) := by decide +kernel
theorem dx_prog_16_method_2_code_6 : decode prog_16_method_2_code 6 = .ok (.lconst 0, 1) := by decide +kernel
theorem dx_prog_16_method_2_code_7 : decode prog_16_method_2_code 7 = .ok (.goto 12, 3) := by decide +kernel
theorem dx_prog_16_method_2_code_19 : decode prog_16_method_2_code 19 = .ok (.lreturn, 1) := by decide +kernel
theorem dx_prog_16_method_2_code_10 : decode prog_16_method_2_code 10 = .ok (.getstatic 75, 3) := by decide +kernel
theorem dx_prog_16_method_2_code_13 : decode prog_16_method_2_code 13 = .ok (.lload_n 0, 1) := by decide +kernel
theorem dx_prog_16_method_2_code_14 : decode prog_16_method_2_code 14 = .ok (.lload_n 2, 1) := by decide +kernel
theorem dx_prog_16_method_2_code_15 : decode prog_16_method_2_code 15 = .ok (.ldiv, 1) := by decide +kernel
theorem dx_prog_16_method_2_code_16 : decode prog_16_method_2_code 16 = .ok (.invokevirtual 81, 3) := by decide +kernel
theorem pd__J_J : parseMethodDescriptor "(J)J" = some ⟨[.long], some .long⟩ := by decide +kernel
def Qavg (Z : State) (ns : Addr) (q1 : Int64) (q2 : Int64) (h0 : Heap) (n0 : Nat) (v : Option Value) (h : Heap) (L : List Loc) : Prop := v = some (.long (own_avg q1 q2)) ∧ Fr n0 L ∧ h = h0
theorem ef_prog_16_method_2_code_JJ (m : MethodId) (x0 : Int64) (x1 : Int64) : entryFrame m #[(.long x0), (.long x1)] 4 = mkF m 0 #[.val (.long x0), .second, .val (.long x1), .second] [] := by first | (simp [entryFrame, mkF, argsToLocals, Value.category]; done) | rfl
abbrev y1 : MethodName := ⟨"com/example/cistern/cistern/PoolState", "averageMillis", "(JJ)J"⟩
theorem pn_com_example_cistern_cistern_PoolState : plainName "com/example/cistern/cistern/PoolState" = true := by first | (simp [plainName, overriddenIn]; done) | decide +kernel
set_option maxRecDepth 65536 in
set_option maxHeartbeats 40000000 in
theorem rmavg_z (l : Launch) (Z : State) (a0 : Array Value) (ns : Addr) (hG : Glob Z a0 ns) (ws : List Jvm.Cond) (q1 : Int64) (q2 : Int64) (h0 : Heap) (n0 : Nat) (Z0 : n0 ≤ h0.size) (X00 : Old Z n0 h0) (hz : q2 = (0 : Int64)) :
    MetFree l y1 (head1 (Jvm.Cond.code y1 prog_16_method_2_code 4 (some .long) :: ws) ({ frames := 1, cells := 0, slots := 0, locals := 18 } : Room)) (fun a U => a = #[(.long q1), (.long q2)] ∧ Z.Warmed39 U.vm ∧ U.heap = h0) (fun _ _ _ _ _ => True) (fun _ U o U' => ∃ v L, o = .returned v ∧ Qavg Z ns q1 q2 h0 n0 v U'.heap L ∧ FrameEnd U o U' L ({ frames := 1, cells := 0, slots := 0, locals := 18 } : Room).cells ({ frames := 1, cells := 0, slots := 0, locals := 18 } : Room).slots) := by
  obtain ⟨hw, O_ns, O_ens, O_scale, O_ratio⟩ := id hG
  have W : ∀ (i : Nat) {d : Jvm.Cond}, tables_1[i]? = some d → d.before a0 Z = true := fun i d h => hw d (List.mem_of_getElem? h)
  refine MetFree.of_bodySF (plainFor_of_name pn_com_example_cistern_cistern_PoolState) hisR ?_
  intro p e s m args below meth c s₁ Bd hml0 hP hK
  obtain ⟨rfl, hZ, hh⟩ := hP
  have hx := Bd.exec
  have hby := Bd.bytes
  have hml : c.maxLocals = 4 := hml0
  have hown : s.vm.findClass "com/example/cistern/cistern/PoolState" = some m.cls := findClass_of_methodNamed Bd.named
  have hnm := (name_of_methodNamed Bd.named Bd.method).1
  have X0 : Stand p l e ({ frames := 1, cells := 0, slots := 0, locals := 18 } : Room) s m #[(.long q1), (.long q2)] below meth c s₁ [] 0 0 := Stand.of_body Bd
  have e0 : s₁.heap = h0 := by rw [← hh, Bd.state]; rfl
  have N0 := Fr.nil n0
  have pre0 : ∀ t, Steps p.tables e below (s₁.setTop (mkF m 0 #[.val (.long q1), .second, .val (.long q2), .second] [])) t → Steps p.tables e below (s₁.setTop (entryFrame m #[(.long q1), (.long q2)] 4)) t := fun t kk_ => castTop (ef_prog_16_method_2_code_JJ m q1 q2) kk_
  obtain ⟨fs, hr, hrun, hended, hW, hsame⟩ := X0.leave (v := some (.long (0 : Int64))) (fun h => by rw [Bd.returns] at h; cases h)
  refine ⟨_, _, pre0 _ ?_, hrun, hended, _, _, rfl, ?_, ⟨_, rfl⟩, hW, hsame.mono (Nat.le_of_ble_eq_true rfl) (Nat.le_of_ble_eq_true rfl)⟩
  · show Steps p.tables e below (s₁.setTop (mkF m 0 #[.val (.long q1), .second, .val (.long q2), .second] [])) _
    refine XS.lloadN X0.here hx rfl (hb hby dx_prog_16_method_2_code_0) rfl ?_
    show Steps p.tables e below (s₁.setTop (mkF m 1 #[.val (.long q1), .second, .val (.long q2), .second] [(.long q2)])) _
    refine XS.lconst X0.here hx rfl (hb hby dx_prog_16_method_2_code_1) ?_
    show Steps p.tables e below (s₁.setTop (mkF m 2 #[.val (.long q1), .second, .val (.long q2), .second] [(.long (0 : Int64)), (.long q2)])) _
    refine XS.lcmp X0.here hx rfl (hb hby dx_prog_16_method_2_code_2) rfl ?_
    show Steps p.tables e below (s₁.setTop (mkF m 3 #[.val (.long q1), .second, .val (.long q2), .second] [(.int (lcmpW q2 (0 : Int64)))])) _
    refine XS.ifNo X0.here hx rfl (hb hby dx_prog_16_method_2_code_3) rfl ((if0 _ _).trans (teq ((lw_eq _ _).mpr hz : (lcmpW q2 (0 : Int64)) = (0 : Int32))).2) ?_
    show Steps p.tables e below (s₁.setTop (mkF m 6 #[.val (.long q1), .second, .val (.long q2), .second] [])) _
    refine XS.lconst X0.here hx rfl (hb hby dx_prog_16_method_2_code_6) ?_
    show Steps p.tables e below (s₁.setTop (mkF m 7 #[.val (.long q1), .second, .val (.long q2), .second] [(.long (0 : Int64))])) _
    refine XS.goto X0.here hx rfl (pc0 := 7) (pc' := 19) rfl (hb hby dx_prog_16_method_2_code_7) (by decide) (by decide) ?_
    show Steps p.tables e below (s₁.setTop (mkF m 19 #[.val (.long q1), .second, .val (.long q2), .second] [(.long (0 : Int64))])) _
    exact retOut X0 hx Bd.returns rfl (Or.inr (Or.inl ⟨rfl, rfl, _, rfl⟩)) (hb hby dx_prog_16_method_2_code_19) hr
  · show Qavg Z ns q1 q2 h0 n0 _ s₁.heap _
    rw [e0]
    exact ⟨(by rw [own_avg0 hz]), N0, rfl⟩
set_option maxRecDepth 65536 in
set_option maxHeartbeats 40000000 in
theorem rmavg_n (l : Launch) (Z : State) (a0 : Array Value) (ns : Addr) (hG : Glob Z a0 ns) (ws : List Jvm.Cond) (q1 : Int64) (q2 : Int64) (h0 : Heap) (n0 : Nat) (Z0 : n0 ≤ h0.size) (X00 : Old Z n0 h0) (hz : ¬ (q2 = (0 : Int64))) :
    MetFree l y1 (head1 (Jvm.Cond.code y1 prog_16_method_2_code 4 (some .long) :: ws) ({ frames := 1, cells := 0, slots := 0, locals := 18 } : Room)) (fun a U => a = #[(.long q1), (.long q2)] ∧ Z.Warmed39 U.vm ∧ U.heap = h0) (fun _ _ _ _ _ => True) (fun _ U o U' => ∃ v L, o = .returned v ∧ Qavg Z ns q1 q2 h0 n0 v U'.heap L ∧ FrameEnd U o U' L ({ frames := 1, cells := 0, slots := 0, locals := 18 } : Room).cells ({ frames := 1, cells := 0, slots := 0, locals := 18 } : Room).slots) := by
  obtain ⟨hw, O_ns, O_ens, O_scale, O_ratio⟩ := id hG
  have W : ∀ (i : Nat) {d : Jvm.Cond}, tables_1[i]? = some d → d.before a0 Z = true := fun i d h => hw d (List.mem_of_getElem? h)
  refine MetFree.of_bodySF (plainFor_of_name pn_com_example_cistern_cistern_PoolState) hisR ?_
  intro p e s m args below meth c s₁ Bd hml0 hP hK
  obtain ⟨rfl, hZ, hh⟩ := hP
  have hx := Bd.exec
  have hby := Bd.bytes
  have hml : c.maxLocals = 4 := hml0
  have hown : s.vm.findClass "com/example/cistern/cistern/PoolState" = some m.cls := findClass_of_methodNamed Bd.named
  have hnm := (name_of_methodNamed Bd.named Bd.method).1
  have X0 : Stand p l e ({ frames := 1, cells := 0, slots := 0, locals := 18 } : Room) s m #[(.long q1), (.long q2)] below meth c s₁ [] 0 0 := Stand.of_body Bd
  have e0 : s₁.heap = h0 := by rw [← hh, Bd.state]; rfl
  have N0 := Fr.nil n0
  have pre0 : ∀ t, Steps p.tables e below (s₁.setTop (mkF m 0 #[.val (.long q1), .second, .val (.long q2), .second] [])) t → Steps p.tables e below (s₁.setTop (entryFrame m #[(.long q1), (.long q2)] 4)) t := fun t kk_ => castTop (ef_prog_16_method_2_code_JJ m q1 q2) kk_
  obtain ⟨T3, X3, e3, st3⟩ := getS2 X0 hx hZ hown (host := "") (Or.inl (W 68 rfl)) Via.refl e0 (O_ns.ext X00.2) (g := (mkF m 10 #[.val (.long q1), .second, .val (.long q2), .second] [])) rfl (hb hby dx_prog_16_method_2_code_10)
  obtain ⟨cq4, kq4, q4a, q4b, q4c⟩ := isOf hZ e3 (O_ens.ext X00.2)
  -- pc 16: java/util/concurrent/TimeUnit.toMillis
  obtain ⟨_, _, ⟨T4, L4, k4, n4⟩, -, X4, ⟨Lc4, hQ4, l4, y4, z4⟩, st4⟩ := X3.virtualBack hx (y := y0) (z := y0) hown (mvT hZ (W 70 rfl)) (mvT hZ (W 71 rfl)) (notFace_of_selects (args := #[]) (mvT hZ (W 73 rfl))) (mvT hZ (W 73 rfl)) (mvT hZ (W 72 rfl)) (by decide) (backOf (W := 0) (rmms l Z a0 ns hG [] (q1 / q2) h0 n0 Z0 X00) hZ (W 74 rfl) (W 69 rfl) (by decide) (by decide)) q4a q4c (g := (mkF m 16 #[.val (.long q1), .second, .val (.long q2), .second] [(.long (q1 / q2)), (.ref ns)])) rfl (by rw [hml]; rfl) (Steps.refl _) (argsL := [(.long (q1 / q2))]) (rest := []) (lenOf pd__J_J rfl) rfl (by show 2 * 0 + _ ≤ _; exact Nat.le_of_eq rfl) (hb hby dx_prog_16_method_2_code_16) (fun _ _ => ⟨rfl, e3, (by decide : 0 + 0 ≤ _), (by decide : 0 + 0 ≤ _)⟩)
  dsimp only [Pt.U, Pt.locs, Pt.cells, Pt.slots] at X4 l4 y4 z4 st4 hQ4
  subst l4 y4 z4
  obtain ⟨rfl, N4q, eq4⟩ := hQ4
  have N4 := Fr.app N0 N4q
  obtain ⟨fs, hr, hrun, hended, hW, hsame⟩ := X4.leave (v := some (.long ((q1 / q2) / ((1000000 : Int32).toInt64)))) (fun h => by rw [Bd.returns] at h; cases h)
  refine ⟨_, _, pre0 _ ?_, hrun, hended, _, _, rfl, ?_, ⟨_, rfl⟩, hW, hsame.mono (Nat.le_of_ble_eq_true rfl) (Nat.le_of_ble_eq_true rfl)⟩
  · show Steps p.tables e below (s₁.setTop (mkF m 0 #[.val (.long q1), .second, .val (.long q2), .second] [])) _
    refine XS.lloadN X0.here hx rfl (hb hby dx_prog_16_method_2_code_0) rfl ?_
    show Steps p.tables e below (s₁.setTop (mkF m 1 #[.val (.long q1), .second, .val (.long q2), .second] [(.long q2)])) _
    refine XS.lconst X0.here hx rfl (hb hby dx_prog_16_method_2_code_1) ?_
    show Steps p.tables e below (s₁.setTop (mkF m 2 #[.val (.long q1), .second, .val (.long q2), .second] [(.long (0 : Int64)), (.long q2)])) _
    refine XS.lcmp X0.here hx rfl (hb hby dx_prog_16_method_2_code_2) rfl ?_
    show Steps p.tables e below (s₁.setTop (mkF m 3 #[.val (.long q1), .second, .val (.long q2), .second] [(.int (lcmpW q2 (0 : Int64)))])) _
    refine XS.ifYes X0.here hx rfl (pc0 := 3) (pc' := 10) rfl (hb hby dx_prog_16_method_2_code_3) rfl ((if0 _ _).trans (feq (fun q => hz ((lw_eq _ _).mp q) : ¬ ((lcmpW q2 (0 : Int64)) = (0 : Int32)))).2) (by decide) (by decide) ?_
    show Steps p.tables e below (s₁.setTop (mkF m 10 #[.val (.long q1), .second, .val (.long q2), .second] [])) _
    refine st3 _ ?_
    show Steps p.tables e below (T3.setTop (mkF m 13 #[.val (.long q1), .second, .val (.long q2), .second] [(.ref ns)])) _
    refine XS.lloadN X3.here hx rfl (hb hby dx_prog_16_method_2_code_13) rfl ?_
    show Steps p.tables e below (T3.setTop (mkF m 14 #[.val (.long q1), .second, .val (.long q2), .second] [(.long q1), (.ref ns)])) _
    refine XS.lloadN X3.here hx rfl (hb hby dx_prog_16_method_2_code_14) rfl ?_
    show Steps p.tables e below (T3.setTop (mkF m 15 #[.val (.long q1), .second, .val (.long q2), .second] [(.long q2), (.long q1), (.ref ns)])) _
    refine XS.ldiv X3.here hx rfl (hb hby dx_prog_16_method_2_code_15) rfl hz ?_
    show Steps p.tables e below (T3.setTop (mkF m 16 #[.val (.long q1), .second, .val (.long q2), .second] [(.long (q1 / q2)), (.ref ns)])) _
    refine st4.trans ?_
    show Steps p.tables e below (T4.setTop (mkF m 19 #[.val (.long q1), .second, .val (.long q2), .second] [(.long ((q1 / q2) / ((1000000 : Int32).toInt64)))])) _
    exact retOut X4 hx Bd.returns rfl (Or.inr (Or.inl ⟨rfl, rfl, _, rfl⟩)) (hb hby dx_prog_16_method_2_code_19) hr
  · show Qavg Z ns q1 q2 h0 n0 _ T4.heap _
    rw [eq4]
    exact ⟨(by rw [own_avg1 hz]), N4, rfl⟩
set_option maxRecDepth 65536 in
theorem rmavg (l : Launch) (Z : State) (a0 : Array Value) (ns : Addr) (hG : Glob Z a0 ns) (ws : List Jvm.Cond) (q1 : Int64) (q2 : Int64) (h0 : Heap) (n0 : Nat) (Z0 : n0 ≤ h0.size) (X00 : Old Z n0 h0) :
    MetFree l y1 (head1 (Jvm.Cond.code y1 prog_16_method_2_code 4 (some .long) :: ws) ({ frames := 1, cells := 0, slots := 0, locals := 18 } : Room)) (fun a U => a = #[(.long q1), (.long q2)] ∧ Z.Warmed39 U.vm ∧ U.heap = h0) (fun _ _ _ _ _ => True) (fun _ U o U' => ∃ v L, o = .returned v ∧ Qavg Z ns q1 q2 h0 n0 v U'.heap L ∧ FrameEnd U o U' L ({ frames := 1, cells := 0, slots := 0, locals := 18 } : Room).cells ({ frames := 1, cells := 0, slots := 0, locals := 18 } : Room).slots) := by
  by_cases h : q2 = (0 : Int64)
  · exact rmavg_z l Z a0 ns hG ws q1 q2 h0 n0 Z0 X00 h
  · exact rmavg_n l Z a0 ns hG ws q1 q2 h0 n0 Z0 X00 h
theorem dx_prog_16_method_1_code_0 : decode prog_16_method_1_code 0 = .ok (.aload_n 0, 1) := by decide +kernel
theorem dx_prog_16_method_1_code_1 : decode prog_16_method_1_code 1 = .ok (.invokespecial 1, 3) := by decide +kernel
theorem dx_prog_16_method_1_code_4 : decode prog_16_method_1_code 4 = .ok (.aload_n 0, 1) := by decide +kernel
theorem dx_prog_16_method_1_code_5 : decode prog_16_method_1_code 5 = .ok (.aload_n 1, 1) := by decide +kernel
theorem dx_prog_16_method_1_code_6 : decode prog_16_method_1_code 6 = .ok (.getfield 7, 3) := by decide +kernel
theorem dx_prog_16_method_1_code_9 : decode prog_16_method_1_code 9 = .ok (.putfield 13, 3) := by decide +kernel
theorem dx_prog_16_method_1_code_12 : decode prog_16_method_1_code 12 = .ok (.aload_n 0, 1) := by decide +kernel
theorem dx_prog_16_method_1_code_13 : decode prog_16_method_1_code 13 = .ok (.aload_n 1, 1) := by decide +kernel
theorem dx_prog_16_method_1_code_14 : decode prog_16_method_1_code 14 = .ok (.getfield 16, 3) := by decide +kernel
theorem dx_prog_16_method_1_code_17 : decode prog_16_method_1_code 17 = .ok (.aload_n 1, 1) := by decide +kernel
theorem dx_prog_16_method_1_code_18 : decode prog_16_method_1_code 18 = .ok (.getfield 7, 3) := by decide +kernel
theorem dx_prog_16_method_1_code_21 : decode prog_16_method_1_code 21 = .ok (.invokestatic 19, 3) := by decide +kernel
theorem pd__JJ_J : parseMethodDescriptor "(JJ)J" = some ⟨[.long, .long], some .long⟩ := by decide +kernel
theorem dx_prog_16_method_1_code_24 : decode prog_16_method_1_code 24 = .ok (.putfield 23, 3) := by decide +kernel
theorem dx_prog_16_method_1_code_27 : decode prog_16_method_1_code 27 = .ok (.aload_n 0, 1) := by decide +kernel
theorem dx_prog_16_method_1_code_28 : decode prog_16_method_1_code 28 = .ok (.aload_n 1, 1) := by decide +kernel
theorem dx_prog_16_method_1_code_29 : decode prog_16_method_1_code 29 = .ok (.getfield 26, 3) := by decide +kernel
theorem dx_prog_16_method_1_code_32 : decode prog_16_method_1_code 32 = .ok (.putfield 29, 3) := by decide +kernel
theorem dx_prog_16_method_1_code_35 : decode prog_16_method_1_code 35 = .ok (.aload_n 0, 1) := by decide +kernel
theorem dx_prog_16_method_1_code_36 : decode prog_16_method_1_code 36 = .ok (.aload_n 1, 1) := by decide +kernel
theorem dx_prog_16_method_1_code_37 : decode prog_16_method_1_code 37 = .ok (.getfield 30, 3) := by decide +kernel
theorem dx_prog_16_method_1_code_40 : decode prog_16_method_1_code 40 = .ok (.aload_n 1, 1) := by decide +kernel
theorem dx_prog_16_method_1_code_41 : decode prog_16_method_1_code 41 = .ok (.getfield 26, 3) := by decide +kernel
theorem dx_prog_16_method_1_code_44 : decode prog_16_method_1_code 44 = .ok (.invokestatic 19, 3) := by decide +kernel
theorem dx_prog_16_method_1_code_47 : decode prog_16_method_1_code 47 = .ok (.putfield 33, 3) := by decide +kernel
theorem dx_prog_16_method_1_code_50 : decode prog_16_method_1_code 50 = .ok (.aload_n 0, 1) := by decide +kernel
theorem dx_prog_16_method_1_code_51 : decode prog_16_method_1_code 51 = .ok (.aload_n 1, 1) := by decide +kernel
theorem dx_prog_16_method_1_code_52 : decode prog_16_method_1_code 52 = .ok (.getfield 36, 3) := by decide +kernel
theorem dx_prog_16_method_1_code_55 : decode prog_16_method_1_code 55 = .ok (.putfield 39, 3) := by decide +kernel
theorem dx_prog_16_method_1_code_58 : decode prog_16_method_1_code 58 = .ok (.aload_n 0, 1) := by decide +kernel
theorem dx_prog_16_method_1_code_59 : decode prog_16_method_1_code 59 = .ok (.aload_n 1, 1) := by decide +kernel
theorem dx_prog_16_method_1_code_60 : decode prog_16_method_1_code 60 = .ok (.getfield 40, 3) := by decide +kernel
theorem dx_prog_16_method_1_code_63 : decode prog_16_method_1_code 63 = .ok (.putfield 43, 3) := by decide +kernel
theorem dx_prog_16_method_1_code_66 : decode prog_16_method_1_code 66 = .ok (.aload_n 0, 1) := by decide +kernel
theorem dx_prog_16_method_1_code_67 : decode prog_16_method_1_code 67 = .ok (.aload_n 1, 1) := by decide +kernel
theorem dx_prog_16_method_1_code_68 : decode prog_16_method_1_code 68 = .ok (.getfield 46, 3) := by decide +kernel
theorem dx_prog_16_method_1_code_71 : decode prog_16_method_1_code 71 = .ok (.aload_n 1, 1) := by decide +kernel
theorem dx_prog_16_method_1_code_72 : decode prog_16_method_1_code 72 = .ok (.getfield 40, 3) := by decide +kernel
theorem dx_prog_16_method_1_code_75 : decode prog_16_method_1_code 75 = .ok (.invokestatic 19, 3) := by decide +kernel
theorem dx_prog_16_method_1_code_78 : decode prog_16_method_1_code 78 = .ok (.putfield 49, 3) := by decide +kernel
theorem dx_prog_16_method_1_code_81 : decode prog_16_method_1_code 81 = .ok (.aload_n 0, 1) := by decide +kernel
theorem dx_prog_16_method_1_code_82 : decode prog_16_method_1_code 82 = .ok (.aload_n 1, 1) := by decide +kernel
theorem dx_prog_16_method_1_code_83 : decode prog_16_method_1_code 83 = .ok (.getfield 52, 3) := by decide +kernel
theorem dx_prog_16_method_1_code_86 : decode prog_16_method_1_code 86 = .ok (.aload_n 1, 1) := by decide +kernel
theorem dx_prog_16_method_1_code_87 : decode prog_16_method_1_code 87 = .ok (.getfield 55, 3) := by decide +kernel
theorem dx_prog_16_method_1_code_90 : decode prog_16_method_1_code 90 = .ok (.invokestatic 19, 3) := by decide +kernel
theorem dx_prog_16_method_1_code_93 : decode prog_16_method_1_code 93 = .ok (.putfield 58, 3) := by decide +kernel
theorem dx_prog_16_method_1_code_96 : decode prog_16_method_1_code 96 = .ok (.aload_n 0, 1) := by decide +kernel
theorem dx_prog_16_method_1_code_97 : decode prog_16_method_1_code 97 = .ok (.iload_n 2, 1) := by decide +kernel
theorem dx_prog_16_method_1_code_98 : decode prog_16_method_1_code 98 = .ok (.putfield 61, 3) := by decide +kernel
theorem dx_prog_16_method_1_code_101 : decode prog_16_method_1_code 101 = .ok (.aload_n 0, 1) := by decide +kernel
theorem dx_prog_16_method_1_code_102 : decode prog_16_method_1_code 102 = .ok (.iload_n 3, 1) := by decide +kernel
theorem dx_prog_16_method_1_code_103 : decode prog_16_method_1_code 103 = .ok (.putfield 65, 3) := by decide +kernel
theorem dx_prog_16_method_1_code_106 : decode prog_16_method_1_code 106 = .ok (.aload_n 0, 1) := by decide +kernel
theorem dx_prog_16_method_1_code_107 : decode prog_16_method_1_code 107 = .ok (.iload 4, 2) := by decide +kernel
theorem dx_prog_16_method_1_code_109 : decode prog_16_method_1_code 109 = .ok (.putfield 68, 3) := by decide +kernel
theorem dx_prog_16_method_1_code_112 : decode prog_16_method_1_code 112 = .ok (.aload_n 0, 1) := by decide +kernel
theorem dx_prog_16_method_1_code_113 : decode prog_16_method_1_code 113 = .ok (.aload_n 1, 1) := by decide +kernel
theorem dx_prog_16_method_1_code_114 : decode prog_16_method_1_code 114 = .ok (.getfield 71, 3) := by decide +kernel
theorem dx_prog_16_method_1_code_117 : decode prog_16_method_1_code 117 = .ok (.putfield 74, 3) := by decide +kernel
theorem dx_prog_16_method_1_code_120 : decode prog_16_method_1_code 120 = .ok (.return_, 1) := by decide +kernel
def Qpsi (Z : State) (ns : Addr) (a1 : Addr) (a2 : Addr) (p1 : Int32) (p2 : Int32) (p3 : Int32) (c0 : Int64) (c1 : Int64) (c2 : Int64) (c3 : Int64) (c4 : Int64) (c5 : Int64) (c6 : Int64) (c7 : Int64) (c8 : Int64) (c9 : Int64) (h0 : Heap) (n0 : Nat) (v : Option Value) (h : Heap) (L : List Loc) : Prop := v = none ∧ Fr n0 L ∧ Keep h0 h [a1] ∧ Exa Z h a1 "com/example/cistern/cistern/PoolState" ∧ Fld Z h a1 "com/example/cistern/cistern/PoolState" "requestCount" "J" (.long c0) ∧ Fld Z h a1 "com/example/cistern/cistern/PoolState" "averageRequestTime" "J" (.long (own_avg c1 c0)) ∧ Fld Z h a1 "com/example/cistern/cistern/PoolState" "hadToWaitCount" "J" (.long c2) ∧ Fld Z h a1 "com/example/cistern/cistern/PoolState" "averageWaitTime" "J" (.long (own_avg c3 c2)) ∧ Fld Z h a1 "com/example/cistern/cistern/PoolState" "badConnectionCount" "J" (.long c4) ∧ Fld Z h a1 "com/example/cistern/cistern/PoolState" "claimedOverdueConnectionCount" "J" (.long c5) ∧ Fld Z h a1 "com/example/cistern/cistern/PoolState" "averageOverdueCheckoutTime" "J" (.long (own_avg c6 c5)) ∧ Fld Z h a1 "com/example/cistern/cistern/PoolState" "averageCheckoutTime" "J" (.long (own_avg c8 c7)) ∧ Fld Z h a1 "com/example/cistern/cistern/PoolState" "idleConnectionCount" "I" (.int p1) ∧ Fld Z h a1 "com/example/cistern/cistern/PoolState" "activeConnectionCount" "I" (.int p2) ∧ Fld Z h a1 "com/example/cistern/cistern/PoolState" "waitingCount" "I" (.int p3) ∧ Fld Z h a1 "com/example/cistern/cistern/PoolState" "connectionsOpened" "J" (.long c9)
theorem ef_prog_16_method_1_code_RRIII (m : MethodId) (x0 : Addr) (x1 : Addr) (x2 : Int32) (x3 : Int32) (x4 : Int32) : entryFrame m #[(.ref x0), (.ref x1), (.int x2), (.int x3), (.int x4)] 5 = mkF m 0 #[.val (.ref x0), .val (.ref x1), .val (.int x2), .val (.int x3), .val (.int x4)] [] := by first | (simp [entryFrame, mkF, argsToLocals, Value.category]; done) | rfl
abbrev y2 : MethodName := ⟨"com/example/cistern/cistern/PoolState", "<init>", "(Lcom/example/cistern/cistern/PoolState$Counters;III)V"⟩
set_option maxRecDepth 65536 in
set_option maxHeartbeats 40000000 in
theorem rmpsi (l : Launch) (Z : State) (a0 : Array Value) (ns : Addr) (hG : Glob Z a0 ns) (ws : List Jvm.Cond) (a1 : Addr) (a2 : Addr) (p1 : Int32) (p2 : Int32) (p3 : Int32) (c0 : Int64) (c1 : Int64) (c2 : Int64) (c3 : Int64) (c4 : Int64) (c5 : Int64) (c6 : Int64) (c7 : Int64) (c8 : Int64) (c9 : Int64) (h0 : Heap) (n0 : Nat) (Z0 : n0 ≤ h0.size) (X00 : Old Z n0 h0) (E_a1 : Exa Z h0 a1 "com/example/cistern/cistern/PoolState") (F_requestCount_a1 : Fld Z h0 a1 "com/example/cistern/cistern/PoolState" "requestCount" "J" (.long (0 : Int64))) (F_averageRequestTime_a1 : Fld Z h0 a1 "com/example/cistern/cistern/PoolState" "averageRequestTime" "J" (.long (0 : Int64))) (F_hadToWaitCount_a1 : Fld Z h0 a1 "com/example/cistern/cistern/PoolState" "hadToWaitCount" "J" (.long (0 : Int64))) (F_averageWaitTime_a1 : Fld Z h0 a1 "com/example/cistern/cistern/PoolState" "averageWaitTime" "J" (.long (0 : Int64))) (F_badConnectionCount_a1 : Fld Z h0 a1 "com/example/cistern/cistern/PoolState" "badConnectionCount" "J" (.long (0 : Int64))) (F_claimedOverdueConnectionCount_a1 : Fld Z h0 a1 "com/example/cistern/cistern/PoolState" "claimedOverdueConnectionCount" "J" (.long (0 : Int64))) (F_averageOverdueCheckoutTime_a1 : Fld Z h0 a1 "com/example/cistern/cistern/PoolState" "averageOverdueCheckoutTime" "J" (.long (0 : Int64))) (F_averageCheckoutTime_a1 : Fld Z h0 a1 "com/example/cistern/cistern/PoolState" "averageCheckoutTime" "J" (.long (0 : Int64))) (F_idleConnectionCount_a1 : Fld Z h0 a1 "com/example/cistern/cistern/PoolState" "idleConnectionCount" "I" (.int (0 : Int32))) (F_activeConnectionCount_a1 : Fld Z h0 a1 "com/example/cistern/cistern/PoolState" "activeConnectionCount" "I" (.int (0 : Int32))) (F_waitingCount_a1 : Fld Z h0 a1 "com/example/cistern/cistern/PoolState" "waitingCount" "I" (.int (0 : Int32))) (F_connectionsOpened_a1 : Fld Z h0 a1 "com/example/cistern/cistern/PoolState" "connectionsOpened" "J" (.long (0 : Int64))) (F_requestCount_a2 : Fld Z h0 a2 "com/example/cistern/cistern/PoolState$Counters" "requestCount" "J" (.long c0)) (F_requestNanos_a2 : Fld Z h0 a2 "com/example/cistern/cistern/PoolState$Counters" "requestNanos" "J" (.long c1)) (F_hadToWaitCount_a2 : Fld Z h0 a2 "com/example/cistern/cistern/PoolState$Counters" "hadToWaitCount" "J" (.long c2)) (F_waitNanos_a2 : Fld Z h0 a2 "com/example/cistern/cistern/PoolState$Counters" "waitNanos" "J" (.long c3)) (F_badConnectionCount_a2 : Fld Z h0 a2 "com/example/cistern/cistern/PoolState$Counters" "badConnectionCount" "J" (.long c4)) (F_claimedOverdueCount_a2 : Fld Z h0 a2 "com/example/cistern/cistern/PoolState$Counters" "claimedOverdueCount" "J" (.long c5)) (F_overdueCheckoutNanos_a2 : Fld Z h0 a2 "com/example/cistern/cistern/PoolState$Counters" "overdueCheckoutNanos" "J" (.long c6)) (F_checkoutCount_a2 : Fld Z h0 a2 "com/example/cistern/cistern/PoolState$Counters" "checkoutCount" "J" (.long c7)) (F_checkoutNanos_a2 : Fld Z h0 a2 "com/example/cistern/cistern/PoolState$Counters" "checkoutNanos" "J" (.long c8)) (F_connectionsOpened_a2 : Fld Z h0 a2 "com/example/cistern/cistern/PoolState$Counters" "connectionsOpened" "J" (.long c9)) (ne_a2_a1 : a2 ≠ a1) (g_a1 : n0 ≤ a1) :
    MetFree l y2 (head1 (Jvm.Cond.code y2 prog_16_method_1_code 5 none :: ws) ({ frames := 2, cells := 0, slots := 0, locals := 34 } : Room)) (fun a U => a = #[(.ref a1), (.ref a2), (.int p1), (.int p2), (.int p3)] ∧ Z.Warmed39 U.vm ∧ U.heap = h0) (fun _ _ _ _ _ => True) (fun _ U o U' => ∃ v L, o = .returned v ∧ Qpsi Z ns a1 a2 p1 p2 p3 c0 c1 c2 c3 c4 c5 c6 c7 c8 c9 h0 n0 v U'.heap L ∧ FrameEnd U o U' L ({ frames := 2, cells := 0, slots := 0, locals := 34 } : Room).cells ({ frames := 2, cells := 0, slots := 0, locals := 34 } : Room).slots) := by
  obtain ⟨hw, O_ns, O_ens, O_scale, O_ratio⟩ := id hG
  have W : ∀ (i : Nat) {d : Jvm.Cond}, tables_1[i]? = some d → d.before a0 Z = true := fun i d h => hw d (List.mem_of_getElem? h)
  refine MetFree.of_bodySF (plainFor_of_name pn_com_example_cistern_cistern_PoolState) hisR ?_
  intro p e s m args below meth c s₁ Bd hml0 hP hK
  obtain ⟨rfl, hZ, hh⟩ := hP
  have hx := Bd.exec
  have hby := Bd.bytes
  have hml : c.maxLocals = 5 := hml0
  have hown : s.vm.findClass "com/example/cistern/cistern/PoolState" = some m.cls := findClass_of_methodNamed Bd.named
  have hnm := (name_of_methodNamed Bd.named Bd.method).1
  have X0 : Stand p l e ({ frames := 2, cells := 0, slots := 0, locals := 34 } : Room) s m #[(.ref a1), (.ref a2), (.int p1), (.int p2), (.int p3)] below meth c s₁ [] 0 0 := Stand.of_body Bd
  have e0 : s₁.heap = h0 := by rw [← hh, Bd.state]; rfl
  have N0 := Fr.nil n0
  have pre0 : ∀ t, Steps p.tables e below (s₁.setTop (mkF m 0 #[.val (.ref a1), .val (.ref a2), .val (.int p1), .val (.int p2), .val (.int p3)] [])) t → Steps p.tables e below (s₁.setTop (entryFrame m #[(.ref a1), (.ref a2), (.int p1), (.int p2), (.int p3)] 5)) t := fun t kk_ => castTop (ef_prog_16_method_1_code_RRIII m a1 a2 p1 p2 p3) kk_
  obtain ⟨T5, X5, e5, st5⟩ := initO X0 hx hZ hown (W 54 rfl) (W 7 rfl) (W 8 rfl) e0 (g := (mkF m 1 #[.val (.ref a1), .val (.ref a2), .val (.int p1), .val (.int p2), .val (.int p3)] [(.ref a1)])) rfl (by rw [hml]; rfl) rfl (hb hby dx_prog_16_method_1_code_1) (by decide) (W := 0) (by show 2 * 0 + _ ≤ _; exact Nat.le_of_eq rfl) (by decide)
  -- pc 6
  obtain ⟨T6, h6, X6, e6, W6, st6⟩ := putF X5 hx hZ hown (host := "") (Or.inl (W 56 rfl)) Via.refl e5 F_requestCount_a1 E_a1 (Or.inr ⟨(W 57 rfl), rfl, hnm⟩) (W 49 rfl) (ty := .long) (by decide) rfl rfl (g := (mkF m 9 #[.val (.ref a1), .val (.ref a2), .val (.int p1), .val (.int p2), .val (.int p3)] [(.long c0), (.ref a1)])) rfl rfl (hb hby dx_prog_16_method_1_code_9)
  have Fw6 := F_requestCount_a1.same W6
  have Z7 : n0 ≤ h6.size := Nat.le_trans Z0 (Keep.of_wr W6).1
  have K0_7 : Keep h0 h6 [a1] := (Keep.refl h0 [a1]).wr W6 (Or.inl (List.mem_of_getElem? (i := 0) rfl))
  have O7 : Old Z n0 h6 := X00.wr W6 g_a1
  have N6 := Fr.snoc X6 N0 g_a1
  have f8 := (F_requestNanos_a2.other W6 (Or.inl ne_a2_a1))
  -- pc 14
  have f9 := (F_requestCount_a2.other W6 (Or.inl ne_a2_a1))
  -- pc 18
  -- pc 21: com/example/cistern/cistern/PoolState.averageMillis
  obtain ⟨_, _, ⟨T10, L10, k10, n10⟩, -, X10, ⟨Lc10, hQ10, l10, y10, z10⟩, st10⟩ := Jvm.LawKit.callS X6 hx (y := y1) hown (mvT hZ (W 59 rfl)) (mvT hZ (W 60 rfl)) (mvT hZ (W 50 rfl)) (mvT hZ (W 61 rfl)) (by decide) (backOf (W := 1) (rmavg l Z a0 ns hG [] c1 c0 h6 n0 Z7 O7) hZ (W 61 rfl) (W 50 rfl) (by decide) (by decide)) (g := (mkF m 21 #[.val (.ref a1), .val (.ref a2), .val (.int p1), .val (.int p2), .val (.int p3)] [(.long c0), (.long c1), (.ref a1)])) rfl (by rw [hml]; rfl) (argsL := [(.long c1), (.long c0)]) (rest := [(.ref a1)]) (lenOf pd__JJ_J rfl) rfl (by show 2 * 0 + _ ≤ _; exact Nat.le_of_eq rfl) (hb hby dx_prog_16_method_1_code_21) (fun _ _ => ⟨rfl, e6, (by decide : 0 + 0 ≤ _), (by decide : 0 + 0 ≤ _)⟩)
  dsimp only [Pt.U, Pt.locs, Pt.cells, Pt.slots] at X10 l10 y10 z10 st10 hQ10
  subst l10 y10 z10
  obtain ⟨rfl, N10q, eq10⟩ := hQ10
  have N10 := Fr.app N6 N10q
  have f11 := (E_a1.wr W6)
  have f12 := (F_averageRequestTime_a1.other W6 (Or.inr (slot_ne (Or.inr (W 63 rfl)) (Or.inr (W 57 rfl)) (by decide) (t := .long) (t' := .long) (by decide) (by decide))))
  obtain ⟨T13, h13, X13, e13, W13, st13⟩ := putF X10 hx hZ hown (host := "") (Or.inl (W 62 rfl)) Via.refl eq10 f12 f11 (Or.inr ⟨(W 63 rfl), rfl, hnm⟩) (W 49 rfl) (ty := .long) (by decide) rfl rfl (g := (mkF m 24 #[.val (.ref a1), .val (.ref a2), .val (.int p1), .val (.int p2), .val (.int p3)] [(.long (own_avg c1 c0)), (.ref a1)])) rfl rfl (hb hby dx_prog_16_method_1_code_24)
  have Fw13 := f12.same W13
  have Z14 : n0 ≤ h13.size := Nat.le_trans Z7 (Keep.of_wr W13).1
  have K0_14 : Keep h0 h13 [a1] := K0_7.wr W13 (Or.inl (List.mem_of_getElem? (i := 0) rfl))
  have O14 : Old Z n0 h13 := O7.wr W13 g_a1
  have N13 := Fr.snoc X13 N10 g_a1
  have f15 := ((F_hadToWaitCount_a2.other W6 (Or.inl ne_a2_a1)).other W13 (Or.inl ne_a2_a1))
  -- pc 29
  have f16 := (f11.wr W13)
  have f17 := ((F_hadToWaitCount_a1.other W6 (Or.inr (slot_ne (Or.inr (W 66 rfl)) (Or.inr (W 57 rfl)) (by decide) (t := .long) (t' := .long) (by decide) (by decide)))).other W13 (Or.inr (slot_ne (Or.inr (W 66 rfl)) (Or.inr (W 63 rfl)) (by decide) (t := .long) (t' := .long) (by decide) (by decide))))
  obtain ⟨T18, h18, X18, e18, W18, st18⟩ := putF X13 hx hZ hown (host := "") (Or.inl (W 65 rfl)) Via.refl e13 f17 f16 (Or.inr ⟨(W 66 rfl), rfl, hnm⟩) (W 49 rfl) (ty := .long) (by decide) rfl rfl (g := (mkF m 32 #[.val (.ref a1), .val (.ref a2), .val (.int p1), .val (.int p2), .val (.int p3)] [(.long c2), (.ref a1)])) rfl rfl (hb hby dx_prog_16_method_1_code_32)
  have Fw18 := f17.same W18
  have Z19 : n0 ≤ h18.size := Nat.le_trans Z14 (Keep.of_wr W18).1
  have K0_19 : Keep h0 h18 [a1] := K0_14.wr W18 (Or.inl (List.mem_of_getElem? (i := 0) rfl))
  have O19 : Old Z n0 h18 := O14.wr W18 g_a1
  have N18 := Fr.snoc X18 N13 g_a1
  have f20 := (((F_waitNanos_a2.other W6 (Or.inl ne_a2_a1)).other W13 (Or.inl ne_a2_a1)).other W18 (Or.inl ne_a2_a1))
  -- pc 37
  have f21 := (f15.other W18 (Or.inl ne_a2_a1))
  -- pc 41
  -- pc 44: com/example/cistern/cistern/PoolState.averageMillis
  obtain ⟨_, _, ⟨T22, L22, k22, n22⟩, -, X22, ⟨Lc22, hQ22, l22, y22, z22⟩, st22⟩ := Jvm.LawKit.callS X18 hx (y := y1) hown (mvT hZ (W 59 rfl)) (mvT hZ (W 60 rfl)) (mvT hZ (W 50 rfl)) (mvT hZ (W 61 rfl)) (by decide) (backOf (W := 1) (rmavg l Z a0 ns hG [] c3 c2 h18 n0 Z19 O19) hZ (W 61 rfl) (W 50 rfl) (by decide) (by decide)) (g := (mkF m 44 #[.val (.ref a1), .val (.ref a2), .val (.int p1), .val (.int p2), .val (.int p3)] [(.long c2), (.long c3), (.ref a1)])) rfl (by rw [hml]; rfl) (argsL := [(.long c3), (.long c2)]) (rest := [(.ref a1)]) (lenOf pd__JJ_J rfl) rfl (by show 2 * 0 + _ ≤ _; exact Nat.le_of_eq rfl) (hb hby dx_prog_16_method_1_code_44) (fun _ _ => ⟨rfl, e18, (by decide : 0 + 0 ≤ _), (by decide : 0 + 0 ≤ _)⟩)
  dsimp only [Pt.U, Pt.locs, Pt.cells, Pt.slots] at X22 l22 y22 z22 st22 hQ22
  subst l22 y22 z22
  obtain ⟨rfl, N22q, eq22⟩ := hQ22
  have N22 := Fr.app N18 N22q
  have f23 := (f16.wr W18)
  have f24 := (((F_averageWaitTime_a1.other W6 (Or.inr (slot_ne (Or.inr (W 81 rfl)) (Or.inr (W 57 rfl)) (by decide) (t := .long) (t' := .long) (by decide) (by decide)))).other W13 (Or.inr (slot_ne (Or.inr (W 81 rfl)) (Or.inr (W 63 rfl)) (by decide) (t := .long) (t' := .long) (by decide) (by decide)))).other W18 (Or.inr (slot_ne (Or.inr (W 81 rfl)) (Or.inr (W 66 rfl)) (by decide) (t := .long) (t' := .long) (by decide) (by decide))))
  obtain ⟨T25, h25, X25, e25, W25, st25⟩ := putF X22 hx hZ hown (host := "") (Or.inl (W 80 rfl)) Via.refl eq22 f24 f23 (Or.inr ⟨(W 81 rfl), rfl, hnm⟩) (W 49 rfl) (ty := .long) (by decide) rfl rfl (g := (mkF m 47 #[.val (.ref a1), .val (.ref a2), .val (.int p1), .val (.int p2), .val (.int p3)] [(.long (own_avg c3 c2)), (.ref a1)])) rfl rfl (hb hby dx_prog_16_method_1_code_47)
  have Fw25 := f24.same W25
  have Z26 : n0 ≤ h25.size := Nat.le_trans Z19 (Keep.of_wr W25).1
  have K0_26 : Keep h0 h25 [a1] := K0_19.wr W25 (Or.inl (List.mem_of_getElem? (i := 0) rfl))
  have O26 : Old Z n0 h25 := O19.wr W25 g_a1
  have N25 := Fr.snoc X25 N22 g_a1
  have f27 := ((((F_badConnectionCount_a2.other W6 (Or.inl ne_a2_a1)).other W13 (Or.inl ne_a2_a1)).other W18 (Or.inl ne_a2_a1)).other W25 (Or.inl ne_a2_a1))
  -- pc 52
  have f28 := (f23.wr W25)
  have f29 := ((((F_badConnectionCount_a1.other W6 (Or.inr (slot_ne (Or.inr (W 84 rfl)) (Or.inr (W 57 rfl)) (by decide) (t := .long) (t' := .long) (by decide) (by decide)))).other W13 (Or.inr (slot_ne (Or.inr (W 84 rfl)) (Or.inr (W 63 rfl)) (by decide) (t := .long) (t' := .long) (by decide) (by decide)))).other W18 (Or.inr (slot_ne (Or.inr (W 84 rfl)) (Or.inr (W 66 rfl)) (by decide) (t := .long) (t' := .long) (by decide) (by decide)))).other W25 (Or.inr (slot_ne (Or.inr (W 84 rfl)) (Or.inr (W 81 rfl)) (by decide) (t := .long) (t' := .long) (by decide) (by decide))))
  obtain ⟨T30, h30, X30, e30, W30, st30⟩ := putF X25 hx hZ hown (host := "") (Or.inl (W 83 rfl)) Via.refl e25 f29 f28 (Or.inr ⟨(W 84 rfl), rfl, hnm⟩) (W 49 rfl) (ty := .long) (by decide) rfl rfl (g := (mkF m 55 #[.val (.ref a1), .val (.ref a2), .val (.int p1), .val (.int p2), .val (.int p3)] [(.long c4), (.ref a1)])) rfl rfl (hb hby dx_prog_16_method_1_code_55)
  have Fw30 := f29.same W30
  have Z31 : n0 ≤ h30.size := Nat.le_trans Z26 (Keep.of_wr W30).1
  have K0_31 : Keep h0 h30 [a1] := K0_26.wr W30 (Or.inl (List.mem_of_getElem? (i := 0) rfl))
  have O31 : Old Z n0 h30 := O26.wr W30 g_a1
  have N30 := Fr.snoc X30 N25 g_a1
  have f32 := (((((F_claimedOverdueCount_a2.other W6 (Or.inl ne_a2_a1)).other W13 (Or.inl ne_a2_a1)).other W18 (Or.inl ne_a2_a1)).other W25 (Or.inl ne_a2_a1)).other W30 (Or.inl ne_a2_a1))
  -- pc 60
  have f33 := (f28.wr W30)
  have f34 := (((((F_claimedOverdueConnectionCount_a1.other W6 (Or.inr (slot_ne (Or.inr (W 87 rfl)) (Or.inr (W 57 rfl)) (by decide) (t := .long) (t' := .long) (by decide) (by decide)))).other W13 (Or.inr (slot_ne (Or.inr (W 87 rfl)) (Or.inr (W 63 rfl)) (by decide) (t := .long) (t' := .long) (by decide) (by decide)))).other W18 (Or.inr (slot_ne (Or.inr (W 87 rfl)) (Or.inr (W 66 rfl)) (by decide) (t := .long) (t' := .long) (by decide) (by decide)))).other W25 (Or.inr (slot_ne (Or.inr (W 87 rfl)) (Or.inr (W 81 rfl)) (by decide) (t := .long) (t' := .long) (by decide) (by decide)))).other W30 (Or.inr (slot_ne (Or.inr (W 87 rfl)) (Or.inr (W 84 rfl)) (by decide) (t := .long) (t' := .long) (by decide) (by decide))))
  obtain ⟨T35, h35, X35, e35, W35, st35⟩ := putF X30 hx hZ hown (host := "") (Or.inl (W 86 rfl)) Via.refl e30 f34 f33 (Or.inr ⟨(W 87 rfl), rfl, hnm⟩) (W 49 rfl) (ty := .long) (by decide) rfl rfl (g := (mkF m 63 #[.val (.ref a1), .val (.ref a2), .val (.int p1), .val (.int p2), .val (.int p3)] [(.long c5), (.ref a1)])) rfl rfl (hb hby dx_prog_16_method_1_code_63)
  have Fw35 := f34.same W35
  have Z36 : n0 ≤ h35.size := Nat.le_trans Z31 (Keep.of_wr W35).1
  have K0_36 : Keep h0 h35 [a1] := K0_31.wr W35 (Or.inl (List.mem_of_getElem? (i := 0) rfl))
  have O36 : Old Z n0 h35 := O31.wr W35 g_a1
  have N35 := Fr.snoc X35 N30 g_a1
  have f37 := ((((((F_overdueCheckoutNanos_a2.other W6 (Or.inl ne_a2_a1)).other W13 (Or.inl ne_a2_a1)).other W18 (Or.inl ne_a2_a1)).other W25 (Or.inl ne_a2_a1)).other W30 (Or.inl ne_a2_a1)).other W35 (Or.inl ne_a2_a1))
  -- pc 68
  have f38 := (f32.other W35 (Or.inl ne_a2_a1))
  -- pc 72
  -- pc 75: com/example/cistern/cistern/PoolState.averageMillis
  obtain ⟨_, _, ⟨T39, L39, k39, n39⟩, -, X39, ⟨Lc39, hQ39, l39, y39, z39⟩, st39⟩ := Jvm.LawKit.callS X35 hx (y := y1) hown (mvT hZ (W 59 rfl)) (mvT hZ (W 60 rfl)) (mvT hZ (W 50 rfl)) (mvT hZ (W 61 rfl)) (by decide) (backOf (W := 1) (rmavg l Z a0 ns hG [] c6 c5 h35 n0 Z36 O36) hZ (W 61 rfl) (W 50 rfl) (by decide) (by decide)) (g := (mkF m 75 #[.val (.ref a1), .val (.ref a2), .val (.int p1), .val (.int p2), .val (.int p3)] [(.long c5), (.long c6), (.ref a1)])) rfl (by rw [hml]; rfl) (argsL := [(.long c6), (.long c5)]) (rest := [(.ref a1)]) (lenOf pd__JJ_J rfl) rfl (by show 2 * 0 + _ ≤ _; exact Nat.le_of_eq rfl) (hb hby dx_prog_16_method_1_code_75) (fun _ _ => ⟨rfl, e35, (by decide : 0 + 0 ≤ _), (by decide : 0 + 0 ≤ _)⟩)
  dsimp only [Pt.U, Pt.locs, Pt.cells, Pt.slots] at X39 l39 y39 z39 st39 hQ39
  subst l39 y39 z39
  obtain ⟨rfl, N39q, eq39⟩ := hQ39
  have N39 := Fr.app N35 N39q
  have f40 := (f33.wr W35)
  have f41 := ((((((F_averageOverdueCheckoutTime_a1.other W6 (Or.inr (slot_ne (Or.inr (W 90 rfl)) (Or.inr (W 57 rfl)) (by decide) (t := .long) (t' := .long) (by decide) (by decide)))).other W13 (Or.inr (slot_ne (Or.inr (W 90 rfl)) (Or.inr (W 63 rfl)) (by decide) (t := .long) (t' := .long) (by decide) (by decide)))).other W18 (Or.inr (slot_ne (Or.inr (W 90 rfl)) (Or.inr (W 66 rfl)) (by decide) (t := .long) (t' := .long) (by decide) (by decide)))).other W25 (Or.inr (slot_ne (Or.inr (W 90 rfl)) (Or.inr (W 81 rfl)) (by decide) (t := .long) (t' := .long) (by decide) (by decide)))).other W30 (Or.inr (slot_ne (Or.inr (W 90 rfl)) (Or.inr (W 84 rfl)) (by decide) (t := .long) (t' := .long) (by decide) (by decide)))).other W35 (Or.inr (slot_ne (Or.inr (W 90 rfl)) (Or.inr (W 87 rfl)) (by decide) (t := .long) (t' := .long) (by decide) (by decide))))
  obtain ⟨T42, h42, X42, e42, W42, st42⟩ := putF X39 hx hZ hown (host := "") (Or.inl (W 89 rfl)) Via.refl eq39 f41 f40 (Or.inr ⟨(W 90 rfl), rfl, hnm⟩) (W 49 rfl) (ty := .long) (by decide) rfl rfl (g := (mkF m 78 #[.val (.ref a1), .val (.ref a2), .val (.int p1), .val (.int p2), .val (.int p3)] [(.long (own_avg c6 c5)), (.ref a1)])) rfl rfl (hb hby dx_prog_16_method_1_code_78)
  have Fw42 := f41.same W42
  have Z43 : n0 ≤ h42.size := Nat.le_trans Z36 (Keep.of_wr W42).1
  have K0_43 : Keep h0 h42 [a1] := K0_36.wr W42 (Or.inl (List.mem_of_getElem? (i := 0) rfl))
  have O43 : Old Z n0 h42 := O36.wr W42 g_a1
  have N42 := Fr.snoc X42 N39 g_a1
  have f44 := (((((((F_checkoutNanos_a2.other W6 (Or.inl ne_a2_a1)).other W13 (Or.inl ne_a2_a1)).other W18 (Or.inl ne_a2_a1)).other W25 (Or.inl ne_a2_a1)).other W30 (Or.inl ne_a2_a1)).other W35 (Or.inl ne_a2_a1)).other W42 (Or.inl ne_a2_a1))
  -- pc 83
  have f45 := (((((((F_checkoutCount_a2.other W6 (Or.inl ne_a2_a1)).other W13 (Or.inl ne_a2_a1)).other W18 (Or.inl ne_a2_a1)).other W25 (Or.inl ne_a2_a1)).other W30 (Or.inl ne_a2_a1)).other W35 (Or.inl ne_a2_a1)).other W42 (Or.inl ne_a2_a1))
  -- pc 87
  -- pc 90: com/example/cistern/cistern/PoolState.averageMillis
  obtain ⟨_, _, ⟨T46, L46, k46, n46⟩, -, X46, ⟨Lc46, hQ46, l46, y46, z46⟩, st46⟩ := Jvm.LawKit.callS X42 hx (y := y1) hown (mvT hZ (W 59 rfl)) (mvT hZ (W 60 rfl)) (mvT hZ (W 50 rfl)) (mvT hZ (W 61 rfl)) (by decide) (backOf (W := 1) (rmavg l Z a0 ns hG [] c8 c7 h42 n0 Z43 O43) hZ (W 61 rfl) (W 50 rfl) (by decide) (by decide)) (g := (mkF m 90 #[.val (.ref a1), .val (.ref a2), .val (.int p1), .val (.int p2), .val (.int p3)] [(.long c7), (.long c8), (.ref a1)])) rfl (by rw [hml]; rfl) (argsL := [(.long c8), (.long c7)]) (rest := [(.ref a1)]) (lenOf pd__JJ_J rfl) rfl (by show 2 * 0 + _ ≤ _; exact Nat.le_of_eq rfl) (hb hby dx_prog_16_method_1_code_90) (fun _ _ => ⟨rfl, e42, (by decide : 0 + 0 ≤ _), (by decide : 0 + 0 ≤ _)⟩)
  dsimp only [Pt.U, Pt.locs, Pt.cells, Pt.slots] at X46 l46 y46 z46 st46 hQ46
  subst l46 y46 z46
  obtain ⟨rfl, N46q, eq46⟩ := hQ46
  have N46 := Fr.app N42 N46q
  have f47 := (f40.wr W42)
  have f48 := (((((((F_averageCheckoutTime_a1.other W6 (Or.inr (slot_ne (Or.inr (W 94 rfl)) (Or.inr (W 57 rfl)) (by decide) (t := .long) (t' := .long) (by decide) (by decide)))).other W13 (Or.inr (slot_ne (Or.inr (W 94 rfl)) (Or.inr (W 63 rfl)) (by decide) (t := .long) (t' := .long) (by decide) (by decide)))).other W18 (Or.inr (slot_ne (Or.inr (W 94 rfl)) (Or.inr (W 66 rfl)) (by decide) (t := .long) (t' := .long) (by decide) (by decide)))).other W25 (Or.inr (slot_ne (Or.inr (W 94 rfl)) (Or.inr (W 81 rfl)) (by decide) (t := .long) (t' := .long) (by decide) (by decide)))).other W30 (Or.inr (slot_ne (Or.inr (W 94 rfl)) (Or.inr (W 84 rfl)) (by decide) (t := .long) (t' := .long) (by decide) (by decide)))).other W35 (Or.inr (slot_ne (Or.inr (W 94 rfl)) (Or.inr (W 87 rfl)) (by decide) (t := .long) (t' := .long) (by decide) (by decide)))).other W42 (Or.inr (slot_ne (Or.inr (W 94 rfl)) (Or.inr (W 90 rfl)) (by decide) (t := .long) (t' := .long) (by decide) (by decide))))
  obtain ⟨T49, h49, X49, e49, W49, st49⟩ := putF X46 hx hZ hown (host := "") (Or.inl (W 93 rfl)) Via.refl eq46 f48 f47 (Or.inr ⟨(W 94 rfl), rfl, hnm⟩) (W 49 rfl) (ty := .long) (by decide) rfl rfl (g := (mkF m 93 #[.val (.ref a1), .val (.ref a2), .val (.int p1), .val (.int p2), .val (.int p3)] [(.long (own_avg c8 c7)), (.ref a1)])) rfl rfl (hb hby dx_prog_16_method_1_code_93)
  have Fw49 := f48.same W49
  have Z50 : n0 ≤ h49.size := Nat.le_trans Z43 (Keep.of_wr W49).1
  have K0_50 : Keep h0 h49 [a1] := K0_43.wr W49 (Or.inl (List.mem_of_getElem? (i := 0) rfl))
  have O50 : Old Z n0 h49 := O43.wr W49 g_a1
  have N49 := Fr.snoc X49 N46 g_a1
  have f51 := (f47.wr W49)
  have f52 := ((((((((F_idleConnectionCount_a1.other W6 (Or.inr (slot_ne (Or.inr (W 96 rfl)) (Or.inr (W 57 rfl)) (by decide) (t := .int) (t' := .long) (by decide) (by decide)))).other W13 (Or.inr (slot_ne (Or.inr (W 96 rfl)) (Or.inr (W 63 rfl)) (by decide) (t := .int) (t' := .long) (by decide) (by decide)))).other W18 (Or.inr (slot_ne (Or.inr (W 96 rfl)) (Or.inr (W 66 rfl)) (by decide) (t := .int) (t' := .long) (by decide) (by decide)))).other W25 (Or.inr (slot_ne (Or.inr (W 96 rfl)) (Or.inr (W 81 rfl)) (by decide) (t := .int) (t' := .long) (by decide) (by decide)))).other W30 (Or.inr (slot_ne (Or.inr (W 96 rfl)) (Or.inr (W 84 rfl)) (by decide) (t := .int) (t' := .long) (by decide) (by decide)))).other W35 (Or.inr (slot_ne (Or.inr (W 96 rfl)) (Or.inr (W 87 rfl)) (by decide) (t := .int) (t' := .long) (by decide) (by decide)))).other W42 (Or.inr (slot_ne (Or.inr (W 96 rfl)) (Or.inr (W 90 rfl)) (by decide) (t := .int) (t' := .long) (by decide) (by decide)))).other W49 (Or.inr (slot_ne (Or.inr (W 96 rfl)) (Or.inr (W 94 rfl)) (by decide) (t := .int) (t' := .long) (by decide) (by decide))))
  obtain ⟨T53, h53, X53, e53, W53, st53⟩ := putF X49 hx hZ hown (host := "") (Or.inl (W 95 rfl)) Via.refl e49 f52 f51 (Or.inr ⟨(W 96 rfl), rfl, hnm⟩) (W 49 rfl) (ty := .int) (by decide) rfl rfl (g := (mkF m 98 #[.val (.ref a1), .val (.ref a2), .val (.int p1), .val (.int p2), .val (.int p3)] [(.int p1), (.ref a1)])) rfl rfl (hb hby dx_prog_16_method_1_code_98)
  have Fw53 := f52.same W53
  have Z54 : n0 ≤ h53.size := Nat.le_trans Z50 (Keep.of_wr W53).1
  have K0_54 : Keep h0 h53 [a1] := K0_50.wr W53 (Or.inl (List.mem_of_getElem? (i := 0) rfl))
  have O54 : Old Z n0 h53 := O50.wr W53 g_a1
  have N53 := Fr.snoc X53 N49 g_a1
  have f55 := (f51.wr W53)
  have f56 := (((((((((F_activeConnectionCount_a1.other W6 (Or.inr (slot_ne (Or.inr (W 98 rfl)) (Or.inr (W 57 rfl)) (by decide) (t := .int) (t' := .long) (by decide) (by decide)))).other W13 (Or.inr (slot_ne (Or.inr (W 98 rfl)) (Or.inr (W 63 rfl)) (by decide) (t := .int) (t' := .long) (by decide) (by decide)))).other W18 (Or.inr (slot_ne (Or.inr (W 98 rfl)) (Or.inr (W 66 rfl)) (by decide) (t := .int) (t' := .long) (by decide) (by decide)))).other W25 (Or.inr (slot_ne (Or.inr (W 98 rfl)) (Or.inr (W 81 rfl)) (by decide) (t := .int) (t' := .long) (by decide) (by decide)))).other W30 (Or.inr (slot_ne (Or.inr (W 98 rfl)) (Or.inr (W 84 rfl)) (by decide) (t := .int) (t' := .long) (by decide) (by decide)))).other W35 (Or.inr (slot_ne (Or.inr (W 98 rfl)) (Or.inr (W 87 rfl)) (by decide) (t := .int) (t' := .long) (by decide) (by decide)))).other W42 (Or.inr (slot_ne (Or.inr (W 98 rfl)) (Or.inr (W 90 rfl)) (by decide) (t := .int) (t' := .long) (by decide) (by decide)))).other W49 (Or.inr (slot_ne (Or.inr (W 98 rfl)) (Or.inr (W 94 rfl)) (by decide) (t := .int) (t' := .long) (by decide) (by decide)))).other W53 (Or.inr (slot_ne (Or.inr (W 98 rfl)) (Or.inr (W 96 rfl)) (by decide) (t := .int) (t' := .int) (by decide) (by decide))))
  obtain ⟨T57, h57, X57, e57, W57, st57⟩ := putF X53 hx hZ hown (host := "") (Or.inl (W 97 rfl)) Via.refl e53 f56 f55 (Or.inr ⟨(W 98 rfl), rfl, hnm⟩) (W 49 rfl) (ty := .int) (by decide) rfl rfl (g := (mkF m 103 #[.val (.ref a1), .val (.ref a2), .val (.int p1), .val (.int p2), .val (.int p3)] [(.int p2), (.ref a1)])) rfl rfl (hb hby dx_prog_16_method_1_code_103)
  have Fw57 := f56.same W57
  have Z58 : n0 ≤ h57.size := Nat.le_trans Z54 (Keep.of_wr W57).1
  have K0_58 : Keep h0 h57 [a1] := K0_54.wr W57 (Or.inl (List.mem_of_getElem? (i := 0) rfl))
  have O58 : Old Z n0 h57 := O54.wr W57 g_a1
  have N57 := Fr.snoc X57 N53 g_a1
  have f59 := (f55.wr W57)
  have f60 := ((((((((((F_waitingCount_a1.other W6 (Or.inr (slot_ne (Or.inr (W 100 rfl)) (Or.inr (W 57 rfl)) (by decide) (t := .int) (t' := .long) (by decide) (by decide)))).other W13 (Or.inr (slot_ne (Or.inr (W 100 rfl)) (Or.inr (W 63 rfl)) (by decide) (t := .int) (t' := .long) (by decide) (by decide)))).other W18 (Or.inr (slot_ne (Or.inr (W 100 rfl)) (Or.inr (W 66 rfl)) (by decide) (t := .int) (t' := .long) (by decide) (by decide)))).other W25 (Or.inr (slot_ne (Or.inr (W 100 rfl)) (Or.inr (W 81 rfl)) (by decide) (t := .int) (t' := .long) (by decide) (by decide)))).other W30 (Or.inr (slot_ne (Or.inr (W 100 rfl)) (Or.inr (W 84 rfl)) (by decide) (t := .int) (t' := .long) (by decide) (by decide)))).other W35 (Or.inr (slot_ne (Or.inr (W 100 rfl)) (Or.inr (W 87 rfl)) (by decide) (t := .int) (t' := .long) (by decide) (by decide)))).other W42 (Or.inr (slot_ne (Or.inr (W 100 rfl)) (Or.inr (W 90 rfl)) (by decide) (t := .int) (t' := .long) (by decide) (by decide)))).other W49 (Or.inr (slot_ne (Or.inr (W 100 rfl)) (Or.inr (W 94 rfl)) (by decide) (t := .int) (t' := .long) (by decide) (by decide)))).other W53 (Or.inr (slot_ne (Or.inr (W 100 rfl)) (Or.inr (W 96 rfl)) (by decide) (t := .int) (t' := .int) (by decide) (by decide)))).other W57 (Or.inr (slot_ne (Or.inr (W 100 rfl)) (Or.inr (W 98 rfl)) (by decide) (t := .int) (t' := .int) (by decide) (by decide))))
  obtain ⟨T61, h61, X61, e61, W61, st61⟩ := putF X57 hx hZ hown (host := "") (Or.inl (W 99 rfl)) Via.refl e57 f60 f59 (Or.inr ⟨(W 100 rfl), rfl, hnm⟩) (W 49 rfl) (ty := .int) (by decide) rfl rfl (g := (mkF m 109 #[.val (.ref a1), .val (.ref a2), .val (.int p1), .val (.int p2), .val (.int p3)] [(.int p3), (.ref a1)])) rfl rfl (hb hby dx_prog_16_method_1_code_109)
  have Fw61 := f60.same W61
  have Z62 : n0 ≤ h61.size := Nat.le_trans Z58 (Keep.of_wr W61).1
  have K0_62 : Keep h0 h61 [a1] := K0_58.wr W61 (Or.inl (List.mem_of_getElem? (i := 0) rfl))
  have O62 : Old Z n0 h61 := O58.wr W61 g_a1
  have N61 := Fr.snoc X61 N57 g_a1
  have f63 := (((((((((((F_connectionsOpened_a2.other W6 (Or.inl ne_a2_a1)).other W13 (Or.inl ne_a2_a1)).other W18 (Or.inl ne_a2_a1)).other W25 (Or.inl ne_a2_a1)).other W30 (Or.inl ne_a2_a1)).other W35 (Or.inl ne_a2_a1)).other W42 (Or.inl ne_a2_a1)).other W49 (Or.inl ne_a2_a1)).other W53 (Or.inl ne_a2_a1)).other W57 (Or.inl ne_a2_a1)).other W61 (Or.inl ne_a2_a1))
  -- pc 114
  have f64 := (f59.wr W61)
  have f65 := (((((((((((F_connectionsOpened_a1.other W6 (Or.inr (slot_ne (Or.inr (W 103 rfl)) (Or.inr (W 57 rfl)) (by decide) (t := .long) (t' := .long) (by decide) (by decide)))).other W13 (Or.inr (slot_ne (Or.inr (W 103 rfl)) (Or.inr (W 63 rfl)) (by decide) (t := .long) (t' := .long) (by decide) (by decide)))).other W18 (Or.inr (slot_ne (Or.inr (W 103 rfl)) (Or.inr (W 66 rfl)) (by decide) (t := .long) (t' := .long) (by decide) (by decide)))).other W25 (Or.inr (slot_ne (Or.inr (W 103 rfl)) (Or.inr (W 81 rfl)) (by decide) (t := .long) (t' := .long) (by decide) (by decide)))).other W30 (Or.inr (slot_ne (Or.inr (W 103 rfl)) (Or.inr (W 84 rfl)) (by decide) (t := .long) (t' := .long) (by decide) (by decide)))).other W35 (Or.inr (slot_ne (Or.inr (W 103 rfl)) (Or.inr (W 87 rfl)) (by decide) (t := .long) (t' := .long) (by decide) (by decide)))).other W42 (Or.inr (slot_ne (Or.inr (W 103 rfl)) (Or.inr (W 90 rfl)) (by decide) (t := .long) (t' := .long) (by decide) (by decide)))).other W49 (Or.inr (slot_ne (Or.inr (W 103 rfl)) (Or.inr (W 94 rfl)) (by decide) (t := .long) (t' := .long) (by decide) (by decide)))).other W53 (Or.inr (slot_ne (Or.inr (W 103 rfl)) (Or.inr (W 96 rfl)) (by decide) (t := .long) (t' := .int) (by decide) (by decide)))).other W57 (Or.inr (slot_ne (Or.inr (W 103 rfl)) (Or.inr (W 98 rfl)) (by decide) (t := .long) (t' := .int) (by decide) (by decide)))).other W61 (Or.inr (slot_ne (Or.inr (W 103 rfl)) (Or.inr (W 100 rfl)) (by decide) (t := .long) (t' := .int) (by decide) (by decide))))
  obtain ⟨T66, h66, X66, e66, W66, st66⟩ := putF X61 hx hZ hown (host := "") (Or.inl (W 102 rfl)) Via.refl e61 f65 f64 (Or.inr ⟨(W 103 rfl), rfl, hnm⟩) (W 49 rfl) (ty := .long) (by decide) rfl rfl (g := (mkF m 117 #[.val (.ref a1), .val (.ref a2), .val (.int p1), .val (.int p2), .val (.int p3)] [(.long c9), (.ref a1)])) rfl rfl (hb hby dx_prog_16_method_1_code_117)
  have Fw66 := f65.same W66
  have Z67 : n0 ≤ h66.size := Nat.le_trans Z62 (Keep.of_wr W66).1
  have K0_67 : Keep h0 h66 [a1] := K0_62.wr W66 (Or.inl (List.mem_of_getElem? (i := 0) rfl))
  have O67 : Old Z n0 h66 := O62.wr W66 g_a1
  have N66 := Fr.snoc X66 N61 g_a1
  have f68 := (f64.wr W66)
  have f69 := (((((((((((Fw6.other W13 (Or.inr (slot_ne (Or.inr (W 57 rfl)) (Or.inr (W 63 rfl)) (by decide) (t := .long) (t' := .long) (by decide) (by decide)))).other W18 (Or.inr (slot_ne (Or.inr (W 57 rfl)) (Or.inr (W 66 rfl)) (by decide) (t := .long) (t' := .long) (by decide) (by decide)))).other W25 (Or.inr (slot_ne (Or.inr (W 57 rfl)) (Or.inr (W 81 rfl)) (by decide) (t := .long) (t' := .long) (by decide) (by decide)))).other W30 (Or.inr (slot_ne (Or.inr (W 57 rfl)) (Or.inr (W 84 rfl)) (by decide) (t := .long) (t' := .long) (by decide) (by decide)))).other W35 (Or.inr (slot_ne (Or.inr (W 57 rfl)) (Or.inr (W 87 rfl)) (by decide) (t := .long) (t' := .long) (by decide) (by decide)))).other W42 (Or.inr (slot_ne (Or.inr (W 57 rfl)) (Or.inr (W 90 rfl)) (by decide) (t := .long) (t' := .long) (by decide) (by decide)))).other W49 (Or.inr (slot_ne (Or.inr (W 57 rfl)) (Or.inr (W 94 rfl)) (by decide) (t := .long) (t' := .long) (by decide) (by decide)))).other W53 (Or.inr (slot_ne (Or.inr (W 57 rfl)) (Or.inr (W 96 rfl)) (by decide) (t := .long) (t' := .int) (by decide) (by decide)))).other W57 (Or.inr (slot_ne (Or.inr (W 57 rfl)) (Or.inr (W 98 rfl)) (by decide) (t := .long) (t' := .int) (by decide) (by decide)))).other W61 (Or.inr (slot_ne (Or.inr (W 57 rfl)) (Or.inr (W 100 rfl)) (by decide) (t := .long) (t' := .int) (by decide) (by decide)))).other W66 (Or.inr (slot_ne (Or.inr (W 57 rfl)) (Or.inr (W 103 rfl)) (by decide) (t := .long) (t' := .long) (by decide) (by decide))))
  have f70 := ((((((((((Fw13.other W18 (Or.inr (slot_ne (Or.inr (W 63 rfl)) (Or.inr (W 66 rfl)) (by decide) (t := .long) (t' := .long) (by decide) (by decide)))).other W25 (Or.inr (slot_ne (Or.inr (W 63 rfl)) (Or.inr (W 81 rfl)) (by decide) (t := .long) (t' := .long) (by decide) (by decide)))).other W30 (Or.inr (slot_ne (Or.inr (W 63 rfl)) (Or.inr (W 84 rfl)) (by decide) (t := .long) (t' := .long) (by decide) (by decide)))).other W35 (Or.inr (slot_ne (Or.inr (W 63 rfl)) (Or.inr (W 87 rfl)) (by decide) (t := .long) (t' := .long) (by decide) (by decide)))).other W42 (Or.inr (slot_ne (Or.inr (W 63 rfl)) (Or.inr (W 90 rfl)) (by decide) (t := .long) (t' := .long) (by decide) (by decide)))).other W49 (Or.inr (slot_ne (Or.inr (W 63 rfl)) (Or.inr (W 94 rfl)) (by decide) (t := .long) (t' := .long) (by decide) (by decide)))).other W53 (Or.inr (slot_ne (Or.inr (W 63 rfl)) (Or.inr (W 96 rfl)) (by decide) (t := .long) (t' := .int) (by decide) (by decide)))).other W57 (Or.inr (slot_ne (Or.inr (W 63 rfl)) (Or.inr (W 98 rfl)) (by decide) (t := .long) (t' := .int) (by decide) (by decide)))).other W61 (Or.inr (slot_ne (Or.inr (W 63 rfl)) (Or.inr (W 100 rfl)) (by decide) (t := .long) (t' := .int) (by decide) (by decide)))).other W66 (Or.inr (slot_ne (Or.inr (W 63 rfl)) (Or.inr (W 103 rfl)) (by decide) (t := .long) (t' := .long) (by decide) (by decide))))
  have f71 := (((((((((Fw18.other W25 (Or.inr (slot_ne (Or.inr (W 66 rfl)) (Or.inr (W 81 rfl)) (by decide) (t := .long) (t' := .long) (by decide) (by decide)))).other W30 (Or.inr (slot_ne (Or.inr (W 66 rfl)) (Or.inr (W 84 rfl)) (by decide) (t := .long) (t' := .long) (by decide) (by decide)))).other W35 (Or.inr (slot_ne (Or.inr (W 66 rfl)) (Or.inr (W 87 rfl)) (by decide) (t := .long) (t' := .long) (by decide) (by decide)))).other W42 (Or.inr (slot_ne (Or.inr (W 66 rfl)) (Or.inr (W 90 rfl)) (by decide) (t := .long) (t' := .long) (by decide) (by decide)))).other W49 (Or.inr (slot_ne (Or.inr (W 66 rfl)) (Or.inr (W 94 rfl)) (by decide) (t := .long) (t' := .long) (by decide) (by decide)))).other W53 (Or.inr (slot_ne (Or.inr (W 66 rfl)) (Or.inr (W 96 rfl)) (by decide) (t := .long) (t' := .int) (by decide) (by decide)))).other W57 (Or.inr (slot_ne (Or.inr (W 66 rfl)) (Or.inr (W 98 rfl)) (by decide) (t := .long) (t' := .int) (by decide) (by decide)))).other W61 (Or.inr (slot_ne (Or.inr (W 66 rfl)) (Or.inr (W 100 rfl)) (by decide) (t := .long) (t' := .int) (by decide) (by decide)))).other W66 (Or.inr (slot_ne (Or.inr (W 66 rfl)) (Or.inr (W 103 rfl)) (by decide) (t := .long) (t' := .long) (by decide) (by decide))))
  have f72 := ((((((((Fw25.other W30 (Or.inr (slot_ne (Or.inr (W 81 rfl)) (Or.inr (W 84 rfl)) (by decide) (t := .long) (t' := .long) (by decide) (by decide)))).other W35 (Or.inr (slot_ne (Or.inr (W 81 rfl)) (Or.inr (W 87 rfl)) (by decide) (t := .long) (t' := .long) (by decide) (by decide)))).other W42 (Or.inr (slot_ne (Or.inr (W 81 rfl)) (Or.inr (W 90 rfl)) (by decide) (t := .long) (t' := .long) (by decide) (by decide)))).other W49 (Or.inr (slot_ne (Or.inr (W 81 rfl)) (Or.inr (W 94 rfl)) (by decide) (t := .long) (t' := .long) (by decide) (by decide)))).other W53 (Or.inr (slot_ne (Or.inr (W 81 rfl)) (Or.inr (W 96 rfl)) (by decide) (t := .long) (t' := .int) (by decide) (by decide)))).other W57 (Or.inr (slot_ne (Or.inr (W 81 rfl)) (Or.inr (W 98 rfl)) (by decide) (t := .long) (t' := .int) (by decide) (by decide)))).other W61 (Or.inr (slot_ne (Or.inr (W 81 rfl)) (Or.inr (W 100 rfl)) (by decide) (t := .long) (t' := .int) (by decide) (by decide)))).other W66 (Or.inr (slot_ne (Or.inr (W 81 rfl)) (Or.inr (W 103 rfl)) (by decide) (t := .long) (t' := .long) (by decide) (by decide))))
  have f73 := (((((((Fw30.other W35 (Or.inr (slot_ne (Or.inr (W 84 rfl)) (Or.inr (W 87 rfl)) (by decide) (t := .long) (t' := .long) (by decide) (by decide)))).other W42 (Or.inr (slot_ne (Or.inr (W 84 rfl)) (Or.inr (W 90 rfl)) (by decide) (t := .long) (t' := .long) (by decide) (by decide)))).other W49 (Or.inr (slot_ne (Or.inr (W 84 rfl)) (Or.inr (W 94 rfl)) (by decide) (t := .long) (t' := .long) (by decide) (by decide)))).other W53 (Or.inr (slot_ne (Or.inr (W 84 rfl)) (Or.inr (W 96 rfl)) (by decide) (t := .long) (t' := .int) (by decide) (by decide)))).other W57 (Or.inr (slot_ne (Or.inr (W 84 rfl)) (Or.inr (W 98 rfl)) (by decide) (t := .long) (t' := .int) (by decide) (by decide)))).other W61 (Or.inr (slot_ne (Or.inr (W 84 rfl)) (Or.inr (W 100 rfl)) (by decide) (t := .long) (t' := .int) (by decide) (by decide)))).other W66 (Or.inr (slot_ne (Or.inr (W 84 rfl)) (Or.inr (W 103 rfl)) (by decide) (t := .long) (t' := .long) (by decide) (by decide))))
  have f74 := ((((((Fw35.other W42 (Or.inr (slot_ne (Or.inr (W 87 rfl)) (Or.inr (W 90 rfl)) (by decide) (t := .long) (t' := .long) (by decide) (by decide)))).other W49 (Or.inr (slot_ne (Or.inr (W 87 rfl)) (Or.inr (W 94 rfl)) (by decide) (t := .long) (t' := .long) (by decide) (by decide)))).other W53 (Or.inr (slot_ne (Or.inr (W 87 rfl)) (Or.inr (W 96 rfl)) (by decide) (t := .long) (t' := .int) (by decide) (by decide)))).other W57 (Or.inr (slot_ne (Or.inr (W 87 rfl)) (Or.inr (W 98 rfl)) (by decide) (t := .long) (t' := .int) (by decide) (by decide)))).other W61 (Or.inr (slot_ne (Or.inr (W 87 rfl)) (Or.inr (W 100 rfl)) (by decide) (t := .long) (t' := .int) (by decide) (by decide)))).other W66 (Or.inr (slot_ne (Or.inr (W 87 rfl)) (Or.inr (W 103 rfl)) (by decide) (t := .long) (t' := .long) (by decide) (by decide))))
  have f75 := (((((Fw42.other W49 (Or.inr (slot_ne (Or.inr (W 90 rfl)) (Or.inr (W 94 rfl)) (by decide) (t := .long) (t' := .long) (by decide) (by decide)))).other W53 (Or.inr (slot_ne (Or.inr (W 90 rfl)) (Or.inr (W 96 rfl)) (by decide) (t := .long) (t' := .int) (by decide) (by decide)))).other W57 (Or.inr (slot_ne (Or.inr (W 90 rfl)) (Or.inr (W 98 rfl)) (by decide) (t := .long) (t' := .int) (by decide) (by decide)))).other W61 (Or.inr (slot_ne (Or.inr (W 90 rfl)) (Or.inr (W 100 rfl)) (by decide) (t := .long) (t' := .int) (by decide) (by decide)))).other W66 (Or.inr (slot_ne (Or.inr (W 90 rfl)) (Or.inr (W 103 rfl)) (by decide) (t := .long) (t' := .long) (by decide) (by decide))))
  have f76 := ((((Fw49.other W53 (Or.inr (slot_ne (Or.inr (W 94 rfl)) (Or.inr (W 96 rfl)) (by decide) (t := .long) (t' := .int) (by decide) (by decide)))).other W57 (Or.inr (slot_ne (Or.inr (W 94 rfl)) (Or.inr (W 98 rfl)) (by decide) (t := .long) (t' := .int) (by decide) (by decide)))).other W61 (Or.inr (slot_ne (Or.inr (W 94 rfl)) (Or.inr (W 100 rfl)) (by decide) (t := .long) (t' := .int) (by decide) (by decide)))).other W66 (Or.inr (slot_ne (Or.inr (W 94 rfl)) (Or.inr (W 103 rfl)) (by decide) (t := .long) (t' := .long) (by decide) (by decide))))
  have f77 := (((Fw53.other W57 (Or.inr (slot_ne (Or.inr (W 96 rfl)) (Or.inr (W 98 rfl)) (by decide) (t := .int) (t' := .int) (by decide) (by decide)))).other W61 (Or.inr (slot_ne (Or.inr (W 96 rfl)) (Or.inr (W 100 rfl)) (by decide) (t := .int) (t' := .int) (by decide) (by decide)))).other W66 (Or.inr (slot_ne (Or.inr (W 96 rfl)) (Or.inr (W 103 rfl)) (by decide) (t := .int) (t' := .long) (by decide) (by decide))))
  have f78 := ((Fw57.other W61 (Or.inr (slot_ne (Or.inr (W 98 rfl)) (Or.inr (W 100 rfl)) (by decide) (t := .int) (t' := .int) (by decide) (by decide)))).other W66 (Or.inr (slot_ne (Or.inr (W 98 rfl)) (Or.inr (W 103 rfl)) (by decide) (t := .int) (t' := .long) (by decide) (by decide))))
  have f79 := (Fw61.other W66 (Or.inr (slot_ne (Or.inr (W 100 rfl)) (Or.inr (W 103 rfl)) (by decide) (t := .int) (t' := .long) (by decide) (by decide))))
  obtain ⟨fs, hr, hrun, hended, hW, hsame⟩ := X66.leave (v := none) (fun _ => rfl)
  refine ⟨_, _, pre0 _ ?_, hrun, hended, _, _, rfl, ?_, ⟨_, rfl⟩, hW, hsame.mono (Nat.le_of_ble_eq_true rfl) (Nat.le_of_ble_eq_true rfl)⟩
  · show Steps p.tables e below (s₁.setTop (mkF m 0 #[.val (.ref a1), .val (.ref a2), .val (.int p1), .val (.int p2), .val (.int p3)] [])) _
    refine XS.aloadN X0.here hx rfl (hb hby dx_prog_16_method_1_code_0) rfl rfl ?_
    show Steps p.tables e below (s₁.setTop (mkF m 1 #[.val (.ref a1), .val (.ref a2), .val (.int p1), .val (.int p2), .val (.int p3)] [(.ref a1)])) _
    refine st5 _ ?_
    show Steps p.tables e below (T5.setTop (mkF m 4 #[.val (.ref a1), .val (.ref a2), .val (.int p1), .val (.int p2), .val (.int p3)] [])) _
    refine XS.aloadN X5.here hx rfl (hb hby dx_prog_16_method_1_code_4) rfl rfl ?_
    show Steps p.tables e below (T5.setTop (mkF m 5 #[.val (.ref a1), .val (.ref a2), .val (.int p1), .val (.int p2), .val (.int p3)] [(.ref a1)])) _
    refine XS.aloadN X5.here hx rfl (hb hby dx_prog_16_method_1_code_5) rfl rfl ?_
    show Steps p.tables e below (T5.setTop (mkF m 6 #[.val (.ref a1), .val (.ref a2), .val (.int p1), .val (.int p2), .val (.int p3)] [(.ref a2), (.ref a1)])) _
    refine getFR X5 hx hZ hown (W 55 rfl) e5 F_requestCount_a2 (g := (mkF m 6 #[.val (.ref a1), .val (.ref a2), .val (.int p1), .val (.int p2), .val (.int p3)] [(.ref a2), (.ref a1)])) rfl rfl (hb hby dx_prog_16_method_1_code_6) _ ?_
    show Steps p.tables e below (T5.setTop (mkF m 9 #[.val (.ref a1), .val (.ref a2), .val (.int p1), .val (.int p2), .val (.int p3)] [(.long c0), (.ref a1)])) _
    refine st6 _ ?_
    show Steps p.tables e below (T6.setTop (mkF m 12 #[.val (.ref a1), .val (.ref a2), .val (.int p1), .val (.int p2), .val (.int p3)] [])) _
    refine XS.aloadN X6.here hx rfl (hb hby dx_prog_16_method_1_code_12) rfl rfl ?_
    show Steps p.tables e below (T6.setTop (mkF m 13 #[.val (.ref a1), .val (.ref a2), .val (.int p1), .val (.int p2), .val (.int p3)] [(.ref a1)])) _
    refine XS.aloadN X6.here hx rfl (hb hby dx_prog_16_method_1_code_13) rfl rfl ?_
    show Steps p.tables e below (T6.setTop (mkF m 14 #[.val (.ref a1), .val (.ref a2), .val (.int p1), .val (.int p2), .val (.int p3)] [(.ref a2), (.ref a1)])) _
    refine getFR X6 hx hZ hown (W 58 rfl) e6 f8 (g := (mkF m 14 #[.val (.ref a1), .val (.ref a2), .val (.int p1), .val (.int p2), .val (.int p3)] [(.ref a2), (.ref a1)])) rfl rfl (hb hby dx_prog_16_method_1_code_14) _ ?_
    show Steps p.tables e below (T6.setTop (mkF m 17 #[.val (.ref a1), .val (.ref a2), .val (.int p1), .val (.int p2), .val (.int p3)] [(.long c1), (.ref a1)])) _
    refine XS.aloadN X6.here hx rfl (hb hby dx_prog_16_method_1_code_17) rfl rfl ?_
    show Steps p.tables e below (T6.setTop (mkF m 18 #[.val (.ref a1), .val (.ref a2), .val (.int p1), .val (.int p2), .val (.int p3)] [(.ref a2), (.long c1), (.ref a1)])) _
    refine getFR X6 hx hZ hown (W 55 rfl) e6 f9 (g := (mkF m 18 #[.val (.ref a1), .val (.ref a2), .val (.int p1), .val (.int p2), .val (.int p3)] [(.ref a2), (.long c1), (.ref a1)])) rfl rfl (hb hby dx_prog_16_method_1_code_18) _ ?_
    show Steps p.tables e below (T6.setTop (mkF m 21 #[.val (.ref a1), .val (.ref a2), .val (.int p1), .val (.int p2), .val (.int p3)] [(.long c0), (.long c1), (.ref a1)])) _
    refine st10 _ ?_
    show Steps p.tables e below (T10.setTop (mkF m 24 #[.val (.ref a1), .val (.ref a2), .val (.int p1), .val (.int p2), .val (.int p3)] [(.long (own_avg c1 c0)), (.ref a1)])) _
    refine st13 _ ?_
    show Steps p.tables e below (T13.setTop (mkF m 27 #[.val (.ref a1), .val (.ref a2), .val (.int p1), .val (.int p2), .val (.int p3)] [])) _
    refine XS.aloadN X13.here hx rfl (hb hby dx_prog_16_method_1_code_27) rfl rfl ?_
    show Steps p.tables e below (T13.setTop (mkF m 28 #[.val (.ref a1), .val (.ref a2), .val (.int p1), .val (.int p2), .val (.int p3)] [(.ref a1)])) _
    refine XS.aloadN X13.here hx rfl (hb hby dx_prog_16_method_1_code_28) rfl rfl ?_
    show Steps p.tables e below (T13.setTop (mkF m 29 #[.val (.ref a1), .val (.ref a2), .val (.int p1), .val (.int p2), .val (.int p3)] [(.ref a2), (.ref a1)])) _
    refine getFR X13 hx hZ hown (W 64 rfl) e13 f15 (g := (mkF m 29 #[.val (.ref a1), .val (.ref a2), .val (.int p1), .val (.int p2), .val (.int p3)] [(.ref a2), (.ref a1)])) rfl rfl (hb hby dx_prog_16_method_1_code_29) _ ?_
    show Steps p.tables e below (T13.setTop (mkF m 32 #[.val (.ref a1), .val (.ref a2), .val (.int p1), .val (.int p2), .val (.int p3)] [(.long c2), (.ref a1)])) _
    refine st18 _ ?_
    show Steps p.tables e below (T18.setTop (mkF m 35 #[.val (.ref a1), .val (.ref a2), .val (.int p1), .val (.int p2), .val (.int p3)] [])) _
    refine XS.aloadN X18.here hx rfl (hb hby dx_prog_16_method_1_code_35) rfl rfl ?_
    show Steps p.tables e below (T18.setTop (mkF m 36 #[.val (.ref a1), .val (.ref a2), .val (.int p1), .val (.int p2), .val (.int p3)] [(.ref a1)])) _
    refine XS.aloadN X18.here hx rfl (hb hby dx_prog_16_method_1_code_36) rfl rfl ?_
    show Steps p.tables e below (T18.setTop (mkF m 37 #[.val (.ref a1), .val (.ref a2), .val (.int p1), .val (.int p2), .val (.int p3)] [(.ref a2), (.ref a1)])) _
    refine getFR X18 hx hZ hown (W 67 rfl) e18 f20 (g := (mkF m 37 #[.val (.ref a1), .val (.ref a2), .val (.int p1), .val (.int p2), .val (.int p3)] [(.ref a2), (.ref a1)])) rfl rfl (hb hby dx_prog_16_method_1_code_37) _ ?_
    show Steps p.tables e below (T18.setTop (mkF m 40 #[.val (.ref a1), .val (.ref a2), .val (.int p1), .val (.int p2), .val (.int p3)] [(.long c3), (.ref a1)])) _
    refine XS.aloadN X18.here hx rfl (hb hby dx_prog_16_method_1_code_40) rfl rfl ?_
    show Steps p.tables e below (T18.setTop (mkF m 41 #[.val (.ref a1), .val (.ref a2), .val (.int p1), .val (.int p2), .val (.int p3)] [(.ref a2), (.long c3), (.ref a1)])) _
    refine getFR X18 hx hZ hown (W 64 rfl) e18 f21 (g := (mkF m 41 #[.val (.ref a1), .val (.ref a2), .val (.int p1), .val (.int p2), .val (.int p3)] [(.ref a2), (.long c3), (.ref a1)])) rfl rfl (hb hby dx_prog_16_method_1_code_41) _ ?_
    show Steps p.tables e below (T18.setTop (mkF m 44 #[.val (.ref a1), .val (.ref a2), .val (.int p1), .val (.int p2), .val (.int p3)] [(.long c2), (.long c3), (.ref a1)])) _
    refine st22 _ ?_
    show Steps p.tables e below (T22.setTop (mkF m 47 #[.val (.ref a1), .val (.ref a2), .val (.int p1), .val (.int p2), .val (.int p3)] [(.long (own_avg c3 c2)), (.ref a1)])) _
    refine st25 _ ?_
    show Steps p.tables e below (T25.setTop (mkF m 50 #[.val (.ref a1), .val (.ref a2), .val (.int p1), .val (.int p2), .val (.int p3)] [])) _
    refine XS.aloadN X25.here hx rfl (hb hby dx_prog_16_method_1_code_50) rfl rfl ?_
    show Steps p.tables e below (T25.setTop (mkF m 51 #[.val (.ref a1), .val (.ref a2), .val (.int p1), .val (.int p2), .val (.int p3)] [(.ref a1)])) _
    refine XS.aloadN X25.here hx rfl (hb hby dx_prog_16_method_1_code_51) rfl rfl ?_
    show Steps p.tables e below (T25.setTop (mkF m 52 #[.val (.ref a1), .val (.ref a2), .val (.int p1), .val (.int p2), .val (.int p3)] [(.ref a2), (.ref a1)])) _
    refine getFR X25 hx hZ hown (W 82 rfl) e25 f27 (g := (mkF m 52 #[.val (.ref a1), .val (.ref a2), .val (.int p1), .val (.int p2), .val (.int p3)] [(.ref a2), (.ref a1)])) rfl rfl (hb hby dx_prog_16_method_1_code_52) _ ?_
    show Steps p.tables e below (T25.setTop (mkF m 55 #[.val (.ref a1), .val (.ref a2), .val (.int p1), .val (.int p2), .val (.int p3)] [(.long c4), (.ref a1)])) _
    refine st30 _ ?_
    show Steps p.tables e below (T30.setTop (mkF m 58 #[.val (.ref a1), .val (.ref a2), .val (.int p1), .val (.int p2), .val (.int p3)] [])) _
    refine XS.aloadN X30.here hx rfl (hb hby dx_prog_16_method_1_code_58) rfl rfl ?_
    show Steps p.tables e below (T30.setTop (mkF m 59 #[.val (.ref a1), .val (.ref a2), .val (.int p1), .val (.int p2), .val (.int p3)] [(.ref a1)])) _
    refine XS.aloadN X30.here hx rfl (hb hby dx_prog_16_method_1_code_59) rfl rfl ?_
    show Steps p.tables e below (T30.setTop (mkF m 60 #[.val (.ref a1), .val (.ref a2), .val (.int p1), .val (.int p2), .val (.int p3)] [(.ref a2), (.ref a1)])) _
    refine getFR X30 hx hZ hown (W 85 rfl) e30 f32 (g := (mkF m 60 #[.val (.ref a1), .val (.ref a2), .val (.int p1), .val (.int p2), .val (.int p3)] [(.ref a2), (.ref a1)])) rfl rfl (hb hby dx_prog_16_method_1_code_60) _ ?_
    show Steps p.tables e below (T30.setTop (mkF m 63 #[.val (.ref a1), .val (.ref a2), .val (.int p1), .val (.int p2), .val (.int p3)] [(.long c5), (.ref a1)])) _
    refine st35 _ ?_
    show Steps p.tables e below (T35.setTop (mkF m 66 #[.val (.ref a1), .val (.ref a2), .val (.int p1), .val (.int p2), .val (.int p3)] [])) _
    refine XS.aloadN X35.here hx rfl (hb hby dx_prog_16_method_1_code_66) rfl rfl ?_
    show Steps p.tables e below (T35.setTop (mkF m 67 #[.val (.ref a1), .val (.ref a2), .val (.int p1), .val (.int p2), .val (.int p3)] [(.ref a1)])) _
    refine XS.aloadN X35.here hx rfl (hb hby dx_prog_16_method_1_code_67) rfl rfl ?_
    show Steps p.tables e below (T35.setTop (mkF m 68 #[.val (.ref a1), .val (.ref a2), .val (.int p1), .val (.int p2), .val (.int p3)] [(.ref a2), (.ref a1)])) _
    refine getFR X35 hx hZ hown (W 88 rfl) e35 f37 (g := (mkF m 68 #[.val (.ref a1), .val (.ref a2), .val (.int p1), .val (.int p2), .val (.int p3)] [(.ref a2), (.ref a1)])) rfl rfl (hb hby dx_prog_16_method_1_code_68) _ ?_
    show Steps p.tables e below (T35.setTop (mkF m 71 #[.val (.ref a1), .val (.ref a2), .val (.int p1), .val (.int p2), .val (.int p3)] [(.long c6), (.ref a1)])) _
    refine XS.aloadN X35.here hx rfl (hb hby dx_prog_16_method_1_code_71) rfl rfl ?_
    show Steps p.tables e below (T35.setTop (mkF m 72 #[.val (.ref a1), .val (.ref a2), .val (.int p1), .val (.int p2), .val (.int p3)] [(.ref a2), (.long c6), (.ref a1)])) _
    refine getFR X35 hx hZ hown (W 85 rfl) e35 f38 (g := (mkF m 72 #[.val (.ref a1), .val (.ref a2), .val (.int p1), .val (.int p2), .val (.int p3)] [(.ref a2), (.long c6), (.ref a1)])) rfl rfl (hb hby dx_prog_16_method_1_code_72) _ ?_
    show Steps p.tables e below (T35.setTop (mkF m 75 #[.val (.ref a1), .val (.ref a2), .val (.int p1), .val (.int p2), .val (.int p3)] [(.long c5), (.long c6), (.ref a1)])) _
    refine st39 _ ?_
    show Steps p.tables e below (T39.setTop (mkF m 78 #[.val (.ref a1), .val (.ref a2), .val (.int p1), .val (.int p2), .val (.int p3)] [(.long (own_avg c6 c5)), (.ref a1)])) _
    refine st42 _ ?_
    show Steps p.tables e below (T42.setTop (mkF m 81 #[.val (.ref a1), .val (.ref a2), .val (.int p1), .val (.int p2), .val (.int p3)] [])) _
    refine XS.aloadN X42.here hx rfl (hb hby dx_prog_16_method_1_code_81) rfl rfl ?_
    show Steps p.tables e below (T42.setTop (mkF m 82 #[.val (.ref a1), .val (.ref a2), .val (.int p1), .val (.int p2), .val (.int p3)] [(.ref a1)])) _
    refine XS.aloadN X42.here hx rfl (hb hby dx_prog_16_method_1_code_82) rfl rfl ?_
    show Steps p.tables e below (T42.setTop (mkF m 83 #[.val (.ref a1), .val (.ref a2), .val (.int p1), .val (.int p2), .val (.int p3)] [(.ref a2), (.ref a1)])) _
    refine getFR X42 hx hZ hown (W 91 rfl) e42 f44 (g := (mkF m 83 #[.val (.ref a1), .val (.ref a2), .val (.int p1), .val (.int p2), .val (.int p3)] [(.ref a2), (.ref a1)])) rfl rfl (hb hby dx_prog_16_method_1_code_83) _ ?_
    show Steps p.tables e below (T42.setTop (mkF m 86 #[.val (.ref a1), .val (.ref a2), .val (.int p1), .val (.int p2), .val (.int p3)] [(.long c8), (.ref a1)])) _
    refine XS.aloadN X42.here hx rfl (hb hby dx_prog_16_method_1_code_86) rfl rfl ?_
    show Steps p.tables e below (T42.setTop (mkF m 87 #[.val (.ref a1), .val (.ref a2), .val (.int p1), .val (.int p2), .val (.int p3)] [(.ref a2), (.long c8), (.ref a1)])) _
    refine getFR X42 hx hZ hown (W 92 rfl) e42 f45 (g := (mkF m 87 #[.val (.ref a1), .val (.ref a2), .val (.int p1), .val (.int p2), .val (.int p3)] [(.ref a2), (.long c8), (.ref a1)])) rfl rfl (hb hby dx_prog_16_method_1_code_87) _ ?_
    show Steps p.tables e below (T42.setTop (mkF m 90 #[.val (.ref a1), .val (.ref a2), .val (.int p1), .val (.int p2), .val (.int p3)] [(.long c7), (.long c8), (.ref a1)])) _
    refine st46 _ ?_
    show Steps p.tables e below (T46.setTop (mkF m 93 #[.val (.ref a1), .val (.ref a2), .val (.int p1), .val (.int p2), .val (.int p3)] [(.long (own_avg c8 c7)), (.ref a1)])) _
    refine st49 _ ?_
    show Steps p.tables e below (T49.setTop (mkF m 96 #[.val (.ref a1), .val (.ref a2), .val (.int p1), .val (.int p2), .val (.int p3)] [])) _
    refine XS.aloadN X49.here hx rfl (hb hby dx_prog_16_method_1_code_96) rfl rfl ?_
    show Steps p.tables e below (T49.setTop (mkF m 97 #[.val (.ref a1), .val (.ref a2), .val (.int p1), .val (.int p2), .val (.int p3)] [(.ref a1)])) _
    refine XS.iloadN X49.here hx rfl (hb hby dx_prog_16_method_1_code_97) rfl ?_
    show Steps p.tables e below (T49.setTop (mkF m 98 #[.val (.ref a1), .val (.ref a2), .val (.int p1), .val (.int p2), .val (.int p3)] [(.int p1), (.ref a1)])) _
    refine st53 _ ?_
    show Steps p.tables e below (T53.setTop (mkF m 101 #[.val (.ref a1), .val (.ref a2), .val (.int p1), .val (.int p2), .val (.int p3)] [])) _
    refine XS.aloadN X53.here hx rfl (hb hby dx_prog_16_method_1_code_101) rfl rfl ?_
    show Steps p.tables e below (T53.setTop (mkF m 102 #[.val (.ref a1), .val (.ref a2), .val (.int p1), .val (.int p2), .val (.int p3)] [(.ref a1)])) _
    refine XS.iloadN X53.here hx rfl (hb hby dx_prog_16_method_1_code_102) rfl ?_
    show Steps p.tables e below (T53.setTop (mkF m 103 #[.val (.ref a1), .val (.ref a2), .val (.int p1), .val (.int p2), .val (.int p3)] [(.int p2), (.ref a1)])) _
    refine st57 _ ?_
    show Steps p.tables e below (T57.setTop (mkF m 106 #[.val (.ref a1), .val (.ref a2), .val (.int p1), .val (.int p2), .val (.int p3)] [])) _
    refine XS.aloadN X57.here hx rfl (hb hby dx_prog_16_method_1_code_106) rfl rfl ?_
    show Steps p.tables e below (T57.setTop (mkF m 107 #[.val (.ref a1), .val (.ref a2), .val (.int p1), .val (.int p2), .val (.int p3)] [(.ref a1)])) _
    refine XS.iload X57.here hx rfl (hb hby dx_prog_16_method_1_code_107) rfl ?_
    show Steps p.tables e below (T57.setTop (mkF m 109 #[.val (.ref a1), .val (.ref a2), .val (.int p1), .val (.int p2), .val (.int p3)] [(.int p3), (.ref a1)])) _
    refine st61 _ ?_
    show Steps p.tables e below (T61.setTop (mkF m 112 #[.val (.ref a1), .val (.ref a2), .val (.int p1), .val (.int p2), .val (.int p3)] [])) _
    refine XS.aloadN X61.here hx rfl (hb hby dx_prog_16_method_1_code_112) rfl rfl ?_
    show Steps p.tables e below (T61.setTop (mkF m 113 #[.val (.ref a1), .val (.ref a2), .val (.int p1), .val (.int p2), .val (.int p3)] [(.ref a1)])) _
    refine XS.aloadN X61.here hx rfl (hb hby dx_prog_16_method_1_code_113) rfl rfl ?_
    show Steps p.tables e below (T61.setTop (mkF m 114 #[.val (.ref a1), .val (.ref a2), .val (.int p1), .val (.int p2), .val (.int p3)] [(.ref a2), (.ref a1)])) _
    refine getFR X61 hx hZ hown (W 101 rfl) e61 f63 (g := (mkF m 114 #[.val (.ref a1), .val (.ref a2), .val (.int p1), .val (.int p2), .val (.int p3)] [(.ref a2), (.ref a1)])) rfl rfl (hb hby dx_prog_16_method_1_code_114) _ ?_
    show Steps p.tables e below (T61.setTop (mkF m 117 #[.val (.ref a1), .val (.ref a2), .val (.int p1), .val (.int p2), .val (.int p3)] [(.long c9), (.ref a1)])) _
    refine st66 _ ?_
    show Steps p.tables e below (T66.setTop (mkF m 120 #[.val (.ref a1), .val (.ref a2), .val (.int p1), .val (.int p2), .val (.int p3)] [])) _
    exact X66.returnOut hx Bd.returns (hb hby dx_prog_16_method_1_code_120) hr
  · show Qpsi Z ns a1 a2 p1 p2 p3 c0 c1 c2 c3 c4 c5 c6 c7 c8 c9 h0 n0 _ T66.heap _
    rw [e66]
    exact ⟨rfl, N66, K0_67, f68, f69, f70, f71, f72, f73, f74, f75, f76, f77, f78, f79, Fw66⟩
theorem dx_prog_17_method_9_code_0 : decode prog_17_method_9_code 0 = .ok (.new 44, 3) := by decide +kernel
theorem dx_prog_17_method_9_code_3 : decode prog_17_method_9_code 3 = .ok (.dup, 1) := by decide +kernel
theorem dx_prog_17_method_9_code_4 : decode prog_17_method_9_code 4 = .ok (.aload_n 0, 1) := by decide +kernel
theorem dx_prog_17_method_9_code_5 : decode prog_17_method_9_code 5 = .ok (.iload_n 1, 1) := by decide +kernel
theorem dx_prog_17_method_9_code_6 : decode prog_17_method_9_code 6 = .ok (.iload_n 2, 1) := by decide +kernel
theorem dx_prog_17_method_9_code_7 : decode prog_17_method_9_code 7 = .ok (.iload_n 3, 1) := by decide +kernel
theorem dx_prog_17_method_9_code_8 : decode prog_17_method_9_code 8 = .ok (.invokespecial 46, 3) := by decide +kernel
theorem pd__Lcom_example_cistern_cistern_PoolState_Counters_III_V : parseMethodDescriptor "(Lcom/example/cistern/cistern/PoolState$Counters;III)V" = some ⟨[(.object "com/example/cistern/cistern/PoolState$Counters"), .int, .int, .int], none⟩ := by decide +kernel
theorem dx_prog_17_method_9_code_11 : decode prog_17_method_9_code 11 = .ok (.areturn, 1) := by decide +kernel
def Qsnap (Z : State) (ns : Addr) (a2 : Addr) (p1 : Int32) (p2 : Int32) (p3 : Int32) (c0 : Int64) (c1 : Int64) (c2 : Int64) (c3 : Int64) (c4 : Int64) (c5 : Int64) (c6 : Int64) (c7 : Int64) (c8 : Int64) (c9 : Int64) (h0 : Heap) (n0 : Nat) (v : Option Value) (h : Heap) (L : List Loc) : Prop := ∃ b : Addr, v = some (.ref b) ∧ Fr n0 L ∧ Keep h0 h [] ∧ h0.size ≤ b ∧ Exa Z h b "com/example/cistern/cistern/PoolState" ∧ Fld Z h b "com/example/cistern/cistern/PoolState" "requestCount" "J" (.long c0) ∧ Fld Z h b "com/example/cistern/cistern/PoolState" "averageRequestTime" "J" (.long (own_avg c1 c0)) ∧ Fld Z h b "com/example/cistern/cistern/PoolState" "hadToWaitCount" "J" (.long c2) ∧ Fld Z h b "com/example/cistern/cistern/PoolState" "averageWaitTime" "J" (.long (own_avg c3 c2)) ∧ Fld Z h b "com/example/cistern/cistern/PoolState" "badConnectionCount" "J" (.long c4) ∧ Fld Z h b "com/example/cistern/cistern/PoolState" "claimedOverdueConnectionCount" "J" (.long c5) ∧ Fld Z h b "com/example/cistern/cistern/PoolState" "averageOverdueCheckoutTime" "J" (.long (own_avg c6 c5)) ∧ Fld Z h b "com/example/cistern/cistern/PoolState" "averageCheckoutTime" "J" (.long (own_avg c8 c7)) ∧ Fld Z h b "com/example/cistern/cistern/PoolState" "idleConnectionCount" "I" (.int p1) ∧ Fld Z h b "com/example/cistern/cistern/PoolState" "activeConnectionCount" "I" (.int p2) ∧ Fld Z h b "com/example/cistern/cistern/PoolState" "waitingCount" "I" (.int p3) ∧ Fld Z h b "com/example/cistern/cistern/PoolState" "connectionsOpened" "J" (.long c9)
theorem ef_prog_17_method_9_code_RIII (m : MethodId) (x0 : Addr) (x1 : Int32) (x2 : Int32) (x3 : Int32) : entryFrame m #[(.ref x0), (.int x1), (.int x2), (.int x3)] 4 = mkF m 0 #[.val (.ref x0), .val (.int x1), .val (.int x2), .val (.int x3)] [] := by first | (simp [entryFrame, mkF, argsToLocals, Value.category]; done) | rfl
abbrev y3 : MethodName := ⟨"com/example/cistern/cistern/PoolState$Counters", "snapshot", "(III)Lcom/example/cistern/cistern/PoolState;"⟩
theorem pn_com_example_cistern_cistern_PoolState_Counters : plainName "com/example/cistern/cistern/PoolState$Counters" = true := by first | (simp [plainName, overriddenIn]; done) | decide +kernel
set_option maxRecDepth 65536 in
set_option maxHeartbeats 40000000 in
theorem rmsnap (l : Launch) (Z : State) (a0 : Array Value) (ns : Addr) (hG : Glob Z a0 ns) (ws : List Jvm.Cond) (a2 : Addr) (p1 : Int32) (p2 : Int32) (p3 : Int32) (c0 : Int64) (c1 : Int64) (c2 : Int64) (c3 : Int64) (c4 : Int64) (c5 : Int64) (c6 : Int64) (c7 : Int64) (c8 : Int64) (c9 : Int64) (h0 : Heap) (n0 : Nat) (Z0 : n0 ≤ h0.size) (X00 : Old Z n0 h0) (F_requestCount_a2 : Fld Z h0 a2 "com/example/cistern/cistern/PoolState$Counters" "requestCount" "J" (.long c0)) (F_requestNanos_a2 : Fld Z h0 a2 "com/example/cistern/cistern/PoolState$Counters" "requestNanos" "J" (.long c1)) (F_hadToWaitCount_a2 : Fld Z h0 a2 "com/example/cistern/cistern/PoolState$Counters" "hadToWaitCount" "J" (.long c2)) (F_waitNanos_a2 : Fld Z h0 a2 "com/example/cistern/cistern/PoolState$Counters" "waitNanos" "J" (.long c3)) (F_badConnectionCount_a2 : Fld Z h0 a2 "com/example/cistern/cistern/PoolState$Counters" "badConnectionCount" "J" (.long c4)) (F_claimedOverdueCount_a2 : Fld Z h0 a2 "com/example/cistern/cistern/PoolState$Counters" "claimedOverdueCount" "J" (.long c5)) (F_overdueCheckoutNanos_a2 : Fld Z h0 a2 "com/example/cistern/cistern/PoolState$Counters" "overdueCheckoutNanos" "J" (.long c6)) (F_checkoutCount_a2 : Fld Z h0 a2 "com/example/cistern/cistern/PoolState$Counters" "checkoutCount" "J" (.long c7)) (F_checkoutNanos_a2 : Fld Z h0 a2 "com/example/cistern/cistern/PoolState$Counters" "checkoutNanos" "J" (.long c8)) (F_connectionsOpened_a2 : Fld Z h0 a2 "com/example/cistern/cistern/PoolState$Counters" "connectionsOpened" "J" (.long c9)) :
    MetFree l y3 (head1 (Jvm.Cond.code y3 prog_17_method_9_code 4 (some (.object "com/example/cistern/cistern/PoolState")) :: ws) ({ frames := 3, cells := 1, slots := 12, locals := 51 } : Room)) (fun a U => a = #[(.ref a2), (.int p1), (.int p2), (.int p3)] ∧ Z.Warmed39 U.vm ∧ U.heap = h0) (fun _ _ _ _ _ => True) (fun _ U o U' => ∃ v L, o = .returned v ∧ Qsnap Z ns a2 p1 p2 p3 c0 c1 c2 c3 c4 c5 c6 c7 c8 c9 h0 n0 v U'.heap L ∧ FrameEnd U o U' L ({ frames := 3, cells := 1, slots := 12, locals := 51 } : Room).cells ({ frames := 3, cells := 1, slots := 12, locals := 51 } : Room).slots) := by
  obtain ⟨hw, O_ns, O_ens, O_scale, O_ratio⟩ := id hG
  have W : ∀ (i : Nat) {d : Jvm.Cond}, tables_1[i]? = some d → d.before a0 Z = true := fun i d h => hw d (List.mem_of_getElem? h)
  refine MetFree.of_bodySF (plainFor_of_name pn_com_example_cistern_cistern_PoolState_Counters) hisR ?_
  intro p e s m args below meth c s₁ Bd hml0 hP hK
  obtain ⟨rfl, hZ, hh⟩ := hP
  have hx := Bd.exec
  have hby := Bd.bytes
  have hml : c.maxLocals = 4 := hml0
  have hown : s.vm.findClass "com/example/cistern/cistern/PoolState$Counters" = some m.cls := findClass_of_methodNamed Bd.named
  have hnm := (name_of_methodNamed Bd.named Bd.method).1
  have X0 : Stand p l e ({ frames := 3, cells := 1, slots := 12, locals := 51 } : Room) s m #[(.ref a2), (.int p1), (.int p2), (.int p3)] below meth c s₁ [] 0 0 := Stand.of_body Bd
  have e0 : s₁.heap = h0 := by rw [← hh, Bd.state]; rfl
  have N0 := Fr.nil n0
  have pre0 : ∀ t, Steps p.tables e below (s₁.setTop (mkF m 0 #[.val (.ref a2), .val (.int p1), .val (.int p2), .val (.int p3)] [])) t → Steps p.tables e below (s₁.setTop (entryFrame m #[(.ref a2), (.int p1), (.int p2), (.int p3)] 4)) t := fun t kk_ => castTop (ef_prog_17_method_9_code_RIII m a2 p1 p2 p3) kk_
  obtain ⟨T80, h80, X80, e80, E80, A80, D80, -, st80⟩ := newO X0 hx hZ hown (W 48 rfl) (W 49 rfl) (W 50 rfl) e0 (g := (mkF m 0 #[.val (.ref a2), .val (.int p1), .val (.int p2), .val (.int p3)] [])) rfl (hb hby dx_prog_17_method_9_code_0) (by decide) (by decide)
  obtain ⟨b80, g80⟩ : ∃ z, z = h0.size := ⟨_, rfl⟩
  rw [← g80] at A80 D80 st80
  have Z81 : n0 ≤ h80.size := Nat.le_trans Z0 E80.1
  have K0_81 : Keep h0 h80 [] := (Keep.refl h0 []).ext E80
  have O81 : Old Z n0 h80 := X00.ext E80
  have lo_b80 : h0.size ≤ b80 := Nat.le_of_eq g80.symm
  have g_b80 : n0 ≤ b80 := Nat.le_trans Z0 lo_b80
  have l0_b80 : h0.size ≤ b80 := Nat.le_trans (Keep.refl h0 []).1 lo_b80
  have F_requestCount_b80 : Fld Z h80 b80 "com/example/cistern/cistern/PoolState" "requestCount" "J" (.long (0 : Int64)) := D80 (Or.inr (W 57 rfl)) (ty := .long) (by decide)
  have F_averageRequestTime_b80 : Fld Z h80 b80 "com/example/cistern/cistern/PoolState" "averageRequestTime" "J" (.long (0 : Int64)) := D80 (Or.inr (W 63 rfl)) (ty := .long) (by decide)
  have F_hadToWaitCount_b80 : Fld Z h80 b80 "com/example/cistern/cistern/PoolState" "hadToWaitCount" "J" (.long (0 : Int64)) := D80 (Or.inr (W 66 rfl)) (ty := .long) (by decide)
  have F_averageWaitTime_b80 : Fld Z h80 b80 "com/example/cistern/cistern/PoolState" "averageWaitTime" "J" (.long (0 : Int64)) := D80 (Or.inr (W 81 rfl)) (ty := .long) (by decide)
  have F_badConnectionCount_b80 : Fld Z h80 b80 "com/example/cistern/cistern/PoolState" "badConnectionCount" "J" (.long (0 : Int64)) := D80 (Or.inr (W 84 rfl)) (ty := .long) (by decide)
  have F_claimedOverdueConnectionCount_b80 : Fld Z h80 b80 "com/example/cistern/cistern/PoolState" "claimedOverdueConnectionCount" "J" (.long (0 : Int64)) := D80 (Or.inr (W 87 rfl)) (ty := .long) (by decide)
  have F_averageOverdueCheckoutTime_b80 : Fld Z h80 b80 "com/example/cistern/cistern/PoolState" "averageOverdueCheckoutTime" "J" (.long (0 : Int64)) := D80 (Or.inr (W 90 rfl)) (ty := .long) (by decide)
  have F_averageCheckoutTime_b80 : Fld Z h80 b80 "com/example/cistern/cistern/PoolState" "averageCheckoutTime" "J" (.long (0 : Int64)) := D80 (Or.inr (W 94 rfl)) (ty := .long) (by decide)
  have F_idleConnectionCount_b80 : Fld Z h80 b80 "com/example/cistern/cistern/PoolState" "idleConnectionCount" "I" (.int (0 : Int32)) := D80 (Or.inr (W 96 rfl)) (ty := .int) (by decide)
  have F_activeConnectionCount_b80 : Fld Z h80 b80 "com/example/cistern/cistern/PoolState" "activeConnectionCount" "I" (.int (0 : Int32)) := D80 (Or.inr (W 98 rfl)) (ty := .int) (by decide)
  have F_waitingCount_b80 : Fld Z h80 b80 "com/example/cistern/cistern/PoolState" "waitingCount" "I" (.int (0 : Int32)) := D80 (Or.inr (W 100 rfl)) (ty := .int) (by decide)
  have F_connectionsOpened_b80 : Fld Z h80 b80 "com/example/cistern/cistern/PoolState" "connectionsOpened" "J" (.long (0 : Int64)) := D80 (Or.inr (W 103 rfl)) (ty := .long) (by decide)
  have f83 := (F_requestCount_a2.ext E80)
  have f84 := (F_requestNanos_a2.ext E80)
  have f85 := (F_hadToWaitCount_a2.ext E80)
  have f86 := (F_waitNanos_a2.ext E80)
  have f87 := (F_badConnectionCount_a2.ext E80)
  have f88 := (F_claimedOverdueCount_a2.ext E80)
  have f89 := (F_overdueCheckoutNanos_a2.ext E80)
  have f90 := (F_checkoutCount_a2.ext E80)
  have f91 := (F_checkoutNanos_a2.ext E80)
  have f92 := (F_connectionsOpened_a2.ext E80)
  -- pc 8: com/example/cistern/cistern/PoolState.<init>
  obtain ⟨_, _, ⟨T82, L82, k82, n82⟩, -, X82, ⟨Lc82, hQ82, l82, y82, z82⟩, st82⟩ := X80.specialBackNest hx (y := y2) rfl hown (Cond.methodLinkNest_wide hZ (W 51 rfl) :) (mvT hZ (W 52 rfl)) (mvT hZ (W 53 rfl)) (by decide) (backOf (W := 1) (rmpsi l Z a0 ns hG [] b80 a2 p1 p2 p3 c0 c1 c2 c3 c4 c5 c6 c7 c8 c9 h80 n0 Z81 O81 A80 F_requestCount_b80 F_averageRequestTime_b80 F_hadToWaitCount_b80 F_averageWaitTime_b80 F_badConnectionCount_b80 F_claimedOverdueConnectionCount_b80 F_averageOverdueCheckoutTime_b80 F_averageCheckoutTime_b80 F_idleConnectionCount_b80 F_activeConnectionCount_b80 F_waitingCount_b80 F_connectionsOpened_b80 f83 f84 f85 f86 f87 f88 f89 f90 f91 f92 (Nat.ne_of_lt (Nat.lt_of_lt_of_le F_requestCount_a2.lt lo_b80)) g_b80) hZ (W 53 rfl) (W 50 rfl) (by decide) (by decide)) (g := (mkF m 8 #[.val (.ref a2), .val (.int p1), .val (.int p2), .val (.int p3)] [(.int p3), (.int p2), (.int p1), (.ref a2), (.ref b80), (.ref b80)])) rfl (by rw [hml]; rfl) (Steps.refl _) (a := b80) (argsL := [(.ref a2), (.int p1), (.int p2), (.int p3)]) (rest := [(.ref b80)]) (lenOf pd__Lcom_example_cistern_cistern_PoolState_Counters_III_V rfl) rfl (by show 2 * 0 + _ ≤ _; exact Nat.le_of_eq rfl) (hb hby dx_prog_17_method_9_code_8) (fun _ _ => ⟨rfl, e80, (by decide : 1 + 0 ≤ _), (by decide : 12 + 0 ≤ _)⟩)
  dsimp only [Pt.U, Pt.locs, Pt.cells, Pt.slots] at X82 l82 y82 z82 st82 hQ82
  subst l82 y82 z82
  obtain ⟨rfl, N82q, K82, f82_0, f82_1, f82_2, f82_3, f82_4, f82_5, f82_6, f82_7, f82_8, f82_9, f82_10, f82_11, f82_12⟩ := hQ82
  have N82 := Fr.app N0 N82q
  have Z93 : n0 ≤ T82.heap.size := Nat.le_trans Z81 K82.1
  have K0_93 : Keep h0 T82.heap [] := K0_81.trans K82 (allS (Or.inr l0_b80) all0)
  have O93 : Old Z n0 T82.heap := O81.keep K82 (allS g_b80 all0)
  obtain ⟨fs, hr, hrun, hended, hW, hsame⟩ := X82.leave (v := some (.ref b80)) (fun h => by rw [Bd.returns] at h; cases h)
  refine ⟨_, _, pre0 _ ?_, hrun, hended, _, _, rfl, ?_, ⟨_, rfl⟩, hW, hsame.mono (Nat.le_of_ble_eq_true rfl) (Nat.le_of_ble_eq_true rfl)⟩
  · show Steps p.tables e below (s₁.setTop (mkF m 0 #[.val (.ref a2), .val (.int p1), .val (.int p2), .val (.int p3)] [])) _
    refine st80 _ ?_
    show Steps p.tables e below (T80.setTop (mkF m 3 #[.val (.ref a2), .val (.int p1), .val (.int p2), .val (.int p3)] [(.ref b80)])) _
    refine XS.dup X80.here hx rfl (hb hby dx_prog_17_method_9_code_3) rfl rfl ?_
    show Steps p.tables e below (T80.setTop (mkF m 4 #[.val (.ref a2), .val (.int p1), .val (.int p2), .val (.int p3)] [(.ref b80), (.ref b80)])) _
    refine XS.aloadN X80.here hx rfl (hb hby dx_prog_17_method_9_code_4) rfl rfl ?_
    show Steps p.tables e below (T80.setTop (mkF m 5 #[.val (.ref a2), .val (.int p1), .val (.int p2), .val (.int p3)] [(.ref a2), (.ref b80), (.ref b80)])) _
    refine XS.iloadN X80.here hx rfl (hb hby dx_prog_17_method_9_code_5) rfl ?_
    show Steps p.tables e below (T80.setTop (mkF m 6 #[.val (.ref a2), .val (.int p1), .val (.int p2), .val (.int p3)] [(.int p1), (.ref a2), (.ref b80), (.ref b80)])) _
    refine XS.iloadN X80.here hx rfl (hb hby dx_prog_17_method_9_code_6) rfl ?_
    show Steps p.tables e below (T80.setTop (mkF m 7 #[.val (.ref a2), .val (.int p1), .val (.int p2), .val (.int p3)] [(.int p2), (.int p1), (.ref a2), (.ref b80), (.ref b80)])) _
    refine XS.iloadN X80.here hx rfl (hb hby dx_prog_17_method_9_code_7) rfl ?_
    show Steps p.tables e below (T80.setTop (mkF m 8 #[.val (.ref a2), .val (.int p1), .val (.int p2), .val (.int p3)] [(.int p3), (.int p2), (.int p1), (.ref a2), (.ref b80), (.ref b80)])) _
    refine st82.trans ?_
    show Steps p.tables e below (T82.setTop (mkF m 11 #[.val (.ref a2), .val (.int p1), .val (.int p2), .val (.int p3)] [(.ref b80)])) _
    exact retOut X82 hx Bd.returns rfl (Or.inr (Or.inr (Or.inr (Or.inr ⟨rfl, rfl, rfl⟩)))) (hb hby dx_prog_17_method_9_code_11) hr
  · show Qsnap Z ns a2 p1 p2 p3 c0 c1 c2 c3 c4 c5 c6 c7 c8 c9 h0 n0 _ T82.heap _
    exact ⟨b80, rfl, N82, K0_93, l0_b80, f82_0, f82_1, f82_2, f82_3, f82_4, f82_5, f82_6, f82_7, f82_8, f82_9, f82_10, f82_11, f82_12⟩
theorem dx_prog_17_method_1_code_0 : decode prog_17_method_1_code 0 = .ok (.aload_n 0, 1) := by decide +kernel
theorem dx_prog_17_method_1_code_1 : decode prog_17_method_1_code 1 = .ok (.invokespecial 1, 3) := by decide +kernel
theorem dx_prog_17_method_1_code_4 : decode prog_17_method_1_code 4 = .ok (.return_, 1) := by decide +kernel
def Qcti (Z : State) (ns : Addr) (a2 : Addr) (h0 : Heap) (n0 : Nat) (v : Option Value) (h : Heap) (L : List Loc) : Prop := v = none ∧ Fr n0 L ∧ h = h0
theorem ef_prog_17_method_1_code_R (m : MethodId) (x0 : Addr) : entryFrame m #[(.ref x0)] 1 = mkF m 0 #[.val (.ref x0)] [] := by first | (simp [entryFrame, mkF, argsToLocals, Value.category]; done) | rfl
abbrev y4 : MethodName := ⟨"com/example/cistern/cistern/PoolState$Counters", "<init>", "()V"⟩
set_option maxRecDepth 65536 in
set_option maxHeartbeats 40000000 in
theorem rmcti (l : Launch) (Z : State) (a0 : Array Value) (ns : Addr) (hG : Glob Z a0 ns) (ws : List Jvm.Cond) (a2 : Addr) (h0 : Heap) (n0 : Nat) (Z0 : n0 ≤ h0.size) (X00 : Old Z n0 h0) :
    MetFree l y4 (head1 (Jvm.Cond.code y4 prog_17_method_1_code 1 none :: ws) ({ frames := 1, cells := 0, slots := 0, locals := 12 } : Room)) (fun a U => a = #[(.ref a2)] ∧ Z.Warmed39 U.vm ∧ U.heap = h0) (fun _ _ _ _ _ => True) (fun _ U o U' => ∃ v L, o = .returned v ∧ Qcti Z ns a2 h0 n0 v U'.heap L ∧ FrameEnd U o U' L ({ frames := 1, cells := 0, slots := 0, locals := 12 } : Room).cells ({ frames := 1, cells := 0, slots := 0, locals := 12 } : Room).slots) := by
  obtain ⟨hw, O_ns, O_ens, O_scale, O_ratio⟩ := id hG
  have W : ∀ (i : Nat) {d : Jvm.Cond}, tables_1[i]? = some d → d.before a0 Z = true := fun i d h => hw d (List.mem_of_getElem? h)
  refine MetFree.of_bodySF (plainFor_of_name pn_com_example_cistern_cistern_PoolState_Counters) hisR ?_
  intro p e s m args below meth c s₁ Bd hml0 hP hK
  obtain ⟨rfl, hZ, hh⟩ := hP
  have hx := Bd.exec
  have hby := Bd.bytes
  have hml : c.maxLocals = 1 := hml0
  have hown : s.vm.findClass "com/example/cistern/cistern/PoolState$Counters" = some m.cls := findClass_of_methodNamed Bd.named
  have hnm := (name_of_methodNamed Bd.named Bd.method).1
  have X0 : Stand p l e ({ frames := 1, cells := 0, slots := 0, locals := 12 } : Room) s m #[(.ref a2)] below meth c s₁ [] 0 0 := Stand.of_body Bd
  have e0 : s₁.heap = h0 := by rw [← hh, Bd.state]; rfl
  have N0 := Fr.nil n0
  have pre0 : ∀ t, Steps p.tables e below (s₁.setTop (mkF m 0 #[.val (.ref a2)] [])) t → Steps p.tables e below (s₁.setTop (entryFrame m #[(.ref a2)] 1)) t := fun t kk_ => castTop (ef_prog_17_method_1_code_R m a2) kk_
  obtain ⟨T94, X94, e94, st94⟩ := initO X0 hx hZ hown (W 6 rfl) (W 7 rfl) (W 8 rfl) e0 (g := (mkF m 1 #[.val (.ref a2)] [(.ref a2)])) rfl (by rw [hml]; rfl) rfl (hb hby dx_prog_17_method_1_code_1) (by decide) (W := 0) (by show 2 * 0 + _ ≤ _; exact Nat.le_of_eq rfl) (by decide)
  obtain ⟨fs, hr, hrun, hended, hW, hsame⟩ := X94.leave (v := none) (fun _ => rfl)
  refine ⟨_, _, pre0 _ ?_, hrun, hended, _, _, rfl, ?_, ⟨_, rfl⟩, hW, hsame.mono (Nat.le_of_ble_eq_true rfl) (Nat.le_of_ble_eq_true rfl)⟩
  · show Steps p.tables e below (s₁.setTop (mkF m 0 #[.val (.ref a2)] [])) _
    refine XS.aloadN X0.here hx rfl (hb hby dx_prog_17_method_1_code_0) rfl rfl ?_
    show Steps p.tables e below (s₁.setTop (mkF m 1 #[.val (.ref a2)] [(.ref a2)])) _
    refine st94 _ ?_
    show Steps p.tables e below (T94.setTop (mkF m 4 #[.val (.ref a2)] [])) _
    exact X94.returnOut hx Bd.returns (hb hby dx_prog_17_method_1_code_4) hr
  · show Qcti Z ns a2 h0 n0 _ T94.heap _
    rw [e94]
    exact ⟨rfl, N0, rfl⟩
theorem dx_prog_16_method_3_code_0 : decode prog_16_method_3_code 0 = .ok (.aload_n 0, 1) := by decide +kernel
theorem dx_prog_16_method_3_code_1 : decode prog_16_method_3_code 1 = .ok (.getfield 13, 3) := by decide +kernel
theorem dx_prog_16_method_3_code_4 : decode prog_16_method_3_code 4 = .ok (.lreturn, 1) := by decide +kernel
def QG_requestCount (Z : State) (ns : Addr) (a1 : Addr) (q : Int64) (h0 : Heap) (n0 : Nat) (v : Option Value) (h : Heap) (L : List Loc) : Prop := v = some (.long q) ∧ Fr n0 L ∧ h = h0
theorem ef_prog_16_method_3_code_R (m : MethodId) (x0 : Addr) : entryFrame m #[(.ref x0)] 1 = mkF m 0 #[.val (.ref x0)] [] := by first | (simp [entryFrame, mkF, argsToLocals, Value.category]; done) | rfl
abbrev y5 : MethodName := ⟨"com/example/cistern/cistern/PoolState", "getRequestCount", "()J"⟩
set_option maxRecDepth 65536 in
set_option maxHeartbeats 40000000 in
theorem rmG_requestCount (l : Launch) (Z : State) (a0 : Array Value) (ns : Addr) (hG : Glob Z a0 ns) (ws : List Jvm.Cond) (a1 : Addr) (q : Int64) (h0 : Heap) (n0 : Nat) (Z0 : n0 ≤ h0.size) (X00 : Old Z n0 h0) (F_requestCount_a1 : Fld Z h0 a1 "com/example/cistern/cistern/PoolState" "requestCount" "J" (.long q)) :
    MetFree l y5 (head1 (Jvm.Cond.code y5 prog_16_method_3_code 1 (some .long) :: ws) ({ frames := 0, cells := 0, slots := 0, locals := 0 } : Room)) (fun a U => a = #[(.ref a1)] ∧ Z.Warmed39 U.vm ∧ U.heap = h0) (fun _ _ _ _ _ => True) (fun _ U o U' => ∃ v L, o = .returned v ∧ QG_requestCount Z ns a1 q h0 n0 v U'.heap L ∧ FrameEnd U o U' L ({ frames := 0, cells := 0, slots := 0, locals := 0 } : Room).cells ({ frames := 0, cells := 0, slots := 0, locals := 0 } : Room).slots) := by
  obtain ⟨hw, O_ns, O_ens, O_scale, O_ratio⟩ := id hG
  have W : ∀ (i : Nat) {d : Jvm.Cond}, tables_1[i]? = some d → d.before a0 Z = true := fun i d h => hw d (List.mem_of_getElem? h)
  refine MetFree.of_bodySF (plainFor_of_name pn_com_example_cistern_cistern_PoolState) hisR ?_
  intro p e s m args below meth c s₁ Bd hml0 hP hK
  obtain ⟨rfl, hZ, hh⟩ := hP
  have hx := Bd.exec
  have hby := Bd.bytes
  have hml : c.maxLocals = 1 := hml0
  have hown : s.vm.findClass "com/example/cistern/cistern/PoolState" = some m.cls := findClass_of_methodNamed Bd.named
  have hnm := (name_of_methodNamed Bd.named Bd.method).1
  have X0 : Stand p l e ({ frames := 0, cells := 0, slots := 0, locals := 0 } : Room) s m #[(.ref a1)] below meth c s₁ [] 0 0 := Stand.of_body Bd
  have e0 : s₁.heap = h0 := by rw [← hh, Bd.state]; rfl
  have N0 := Fr.nil n0
  have pre0 : ∀ t, Steps p.tables e below (s₁.setTop (mkF m 0 #[.val (.ref a1)] [])) t → Steps p.tables e below (s₁.setTop (entryFrame m #[(.ref a1)] 1)) t := fun t kk_ => castTop (ef_prog_16_method_3_code_R m a1) kk_
  obtain ⟨T95, X95, e95, st95⟩ := getF X0 hx hZ hown (host := "") (Or.inl (W 56 rfl)) Via.refl e0 F_requestCount_a1 (g := (mkF m 1 #[.val (.ref a1)] [(.ref a1)])) rfl rfl (hb hby dx_prog_16_method_3_code_1)
  obtain ⟨fs, hr, hrun, hended, hW, hsame⟩ := X95.leave (v := some (.long q)) (fun h => by rw [Bd.returns] at h; cases h)
  refine ⟨_, _, pre0 _ ?_, hrun, hended, _, _, rfl, ?_, ⟨_, rfl⟩, hW, hsame.mono (Nat.le_of_ble_eq_true rfl) (Nat.le_of_ble_eq_true rfl)⟩
  · show Steps p.tables e below (s₁.setTop (mkF m 0 #[.val (.ref a1)] [])) _
    refine XS.aloadN X0.here hx rfl (hb hby dx_prog_16_method_3_code_0) rfl rfl ?_
    show Steps p.tables e below (s₁.setTop (mkF m 1 #[.val (.ref a1)] [(.ref a1)])) _
    refine st95 _ ?_
    show Steps p.tables e below (T95.setTop (mkF m 4 #[.val (.ref a1)] [(.long q)])) _
    exact retOut X95 hx Bd.returns rfl (Or.inr (Or.inl ⟨rfl, rfl, _, rfl⟩)) (hb hby dx_prog_16_method_3_code_4) hr
  · show QG_requestCount Z ns a1 q h0 n0 _ T95.heap _
    rw [e95]
    exact ⟨rfl, N0, rfl⟩
theorem dx_prog_16_method_4_code_0 : decode prog_16_method_4_code 0 = .ok (.aload_n 0, 1) := by decide +kernel
theorem dx_prog_16_method_4_code_1 : decode prog_16_method_4_code 1 = .ok (.getfield 23, 3) := by decide +kernel
theorem dx_prog_16_method_4_code_4 : decode prog_16_method_4_code 4 = .ok (.lreturn, 1) := by decide +kernel
def QG_averageRequestTime (Z : State) (ns : Addr) (a1 : Addr) (q : Int64) (h0 : Heap) (n0 : Nat) (v : Option Value) (h : Heap) (L : List Loc) : Prop := v = some (.long q) ∧ Fr n0 L ∧ h = h0
theorem ef_prog_16_method_4_code_R (m : MethodId) (x0 : Addr) : entryFrame m #[(.ref x0)] 1 = mkF m 0 #[.val (.ref x0)] [] := by first | (simp [entryFrame, mkF, argsToLocals, Value.category]; done) | rfl
abbrev y6 : MethodName := ⟨"com/example/cistern/cistern/PoolState", "getAverageRequestTime", "()J"⟩
set_option maxRecDepth 65536 in
set_option maxHeartbeats 40000000 in
theorem rmG_averageRequestTime (l : Launch) (Z : State) (a0 : Array Value) (ns : Addr) (hG : Glob Z a0 ns) (ws : List Jvm.Cond) (a1 : Addr) (q : Int64) (h0 : Heap) (n0 : Nat) (Z0 : n0 ≤ h0.size) (X00 : Old Z n0 h0) (F_averageRequestTime_a1 : Fld Z h0 a1 "com/example/cistern/cistern/PoolState" "averageRequestTime" "J" (.long q)) :
    MetFree l y6 (head1 (Jvm.Cond.code y6 prog_16_method_4_code 1 (some .long) :: ws) ({ frames := 0, cells := 0, slots := 0, locals := 0 } : Room)) (fun a U => a = #[(.ref a1)] ∧ Z.Warmed39 U.vm ∧ U.heap = h0) (fun _ _ _ _ _ => True) (fun _ U o U' => ∃ v L, o = .returned v ∧ QG_averageRequestTime Z ns a1 q h0 n0 v U'.heap L ∧ FrameEnd U o U' L ({ frames := 0, cells := 0, slots := 0, locals := 0 } : Room).cells ({ frames := 0, cells := 0, slots := 0, locals := 0 } : Room).slots) := by
  obtain ⟨hw, O_ns, O_ens, O_scale, O_ratio⟩ := id hG
  have W : ∀ (i : Nat) {d : Jvm.Cond}, tables_1[i]? = some d → d.before a0 Z = true := fun i d h => hw d (List.mem_of_getElem? h)
  refine MetFree.of_bodySF (plainFor_of_name pn_com_example_cistern_cistern_PoolState) hisR ?_
  intro p e s m args below meth c s₁ Bd hml0 hP hK
  obtain ⟨rfl, hZ, hh⟩ := hP
  have hx := Bd.exec
  have hby := Bd.bytes
  have hml : c.maxLocals = 1 := hml0
  have hown : s.vm.findClass "com/example/cistern/cistern/PoolState" = some m.cls := findClass_of_methodNamed Bd.named
  have hnm := (name_of_methodNamed Bd.named Bd.method).1
  have X0 : Stand p l e ({ frames := 0, cells := 0, slots := 0, locals := 0 } : Room) s m #[(.ref a1)] below meth c s₁ [] 0 0 := Stand.of_body Bd
  have e0 : s₁.heap = h0 := by rw [← hh, Bd.state]; rfl
  have N0 := Fr.nil n0
  have pre0 : ∀ t, Steps p.tables e below (s₁.setTop (mkF m 0 #[.val (.ref a1)] [])) t → Steps p.tables e below (s₁.setTop (entryFrame m #[(.ref a1)] 1)) t := fun t kk_ => castTop (ef_prog_16_method_4_code_R m a1) kk_
  obtain ⟨T96, X96, e96, st96⟩ := getF X0 hx hZ hown (host := "") (Or.inl (W 62 rfl)) Via.refl e0 F_averageRequestTime_a1 (g := (mkF m 1 #[.val (.ref a1)] [(.ref a1)])) rfl rfl (hb hby dx_prog_16_method_4_code_1)
  obtain ⟨fs, hr, hrun, hended, hW, hsame⟩ := X96.leave (v := some (.long q)) (fun h => by rw [Bd.returns] at h; cases h)
  refine ⟨_, _, pre0 _ ?_, hrun, hended, _, _, rfl, ?_, ⟨_, rfl⟩, hW, hsame.mono (Nat.le_of_ble_eq_true rfl) (Nat.le_of_ble_eq_true rfl)⟩
  · show Steps p.tables e below (s₁.setTop (mkF m 0 #[.val (.ref a1)] [])) _
    refine XS.aloadN X0.here hx rfl (hb hby dx_prog_16_method_4_code_0) rfl rfl ?_
    show Steps p.tables e below (s₁.setTop (mkF m 1 #[.val (.ref a1)] [(.ref a1)])) _
    refine st96 _ ?_
    show Steps p.tables e below (T96.setTop (mkF m 4 #[.val (.ref a1)] [(.long q)])) _
    exact retOut X96 hx Bd.returns rfl (Or.inr (Or.inl ⟨rfl, rfl, _, rfl⟩)) (hb hby dx_prog_16_method_4_code_4) hr
  · show QG_averageRequestTime Z ns a1 q h0 n0 _ T96.heap _
    rw [e96]
    exact ⟨rfl, N0, rfl⟩
theorem dx_prog_16_method_5_code_0 : decode prog_16_method_5_code 0 = .ok (.aload_n 0, 1) := by decide +kernel
theorem dx_prog_16_method_5_code_1 : decode prog_16_method_5_code 1 = .ok (.getfield 29, 3) := by decide +kernel
theorem dx_prog_16_method_5_code_4 : decode prog_16_method_5_code 4 = .ok (.lreturn, 1) := by decide +kernel
def QG_hadToWaitCount (Z : State) (ns : Addr) (a1 : Addr) (q : Int64) (h0 : Heap) (n0 : Nat) (v : Option Value) (h : Heap) (L : List Loc) : Prop := v = some (.long q) ∧ Fr n0 L ∧ h = h0
theorem ef_prog_16_method_5_code_R (m : MethodId) (x0 : Addr) : entryFrame m #[(.ref x0)] 1 = mkF m 0 #[.val (.ref x0)] [] := by first | (simp [entryFrame, mkF, argsToLocals, Value.category]; done) | rfl
abbrev y7 : MethodName := ⟨"com/example/cistern/cistern/PoolState", "getHadToWaitCount", "()J"⟩
set_option maxRecDepth 65536 in
set_option maxHeartbeats 40000000 in
theorem rmG_hadToWaitCount (l : Launch) (Z : State) (a0 : Array Value) (ns : Addr) (hG : Glob Z a0 ns) (ws : List Jvm.Cond) (a1 : Addr) (q : Int64) (h0 : Heap) (n0 : Nat) (Z0 : n0 ≤ h0.size) (X00 : Old Z n0 h0) (F_hadToWaitCount_a1 : Fld Z h0 a1 "com/example/cistern/cistern/PoolState" "hadToWaitCount" "J" (.long q)) :
    MetFree l y7 (head1 (Jvm.Cond.code y7 prog_16_method_5_code 1 (some .long) :: ws) ({ frames := 0, cells := 0, slots := 0, locals := 0 } : Room)) (fun a U => a = #[(.ref a1)] ∧ Z.Warmed39 U.vm ∧ U.heap = h0) (fun _ _ _ _ _ => True) (fun _ U o U' => ∃ v L, o = .returned v ∧ QG_hadToWaitCount Z ns a1 q h0 n0 v U'.heap L ∧ FrameEnd U o U' L ({ frames := 0, cells := 0, slots := 0, locals := 0 } : Room).cells ({ frames := 0, cells := 0, slots := 0, locals := 0 } : Room).slots) := by
  obtain ⟨hw, O_ns, O_ens, O_scale, O_ratio⟩ := id hG
  have W : ∀ (i : Nat) {d : Jvm.Cond}, tables_1[i]? = some d → d.before a0 Z = true := fun i d h => hw d (List.mem_of_getElem? h)
  refine MetFree.of_bodySF (plainFor_of_name pn_com_example_cistern_cistern_PoolState) hisR ?_
  intro p e s m args below meth c s₁ Bd hml0 hP hK
  obtain ⟨rfl, hZ, hh⟩ := hP
  have hx := Bd.exec
  have hby := Bd.bytes
  have hml : c.maxLocals = 1 := hml0
  have hown : s.vm.findClass "com/example/cistern/cistern/PoolState" = some m.cls := findClass_of_methodNamed Bd.named
  have hnm := (name_of_methodNamed Bd.named Bd.method).1
  have X0 : Stand p l e ({ frames := 0, cells := 0, slots := 0, locals := 0 } : Room) s m #[(.ref a1)] below meth c s₁ [] 0 0 := Stand.of_body Bd
  have e0 : s₁.heap = h0 := by rw [← hh, Bd.state]; rfl
  have N0 := Fr.nil n0
  have pre0 : ∀ t, Steps p.tables e below (s₁.setTop (mkF m 0 #[.val (.ref a1)] [])) t → Steps p.tables e below (s₁.setTop (entryFrame m #[(.ref a1)] 1)) t := fun t kk_ => castTop (ef_prog_16_method_5_code_R m a1) kk_
  obtain ⟨T97, X97, e97, st97⟩ := getF X0 hx hZ hown (host := "") (Or.inl (W 65 rfl)) Via.refl e0 F_hadToWaitCount_a1 (g := (mkF m 1 #[.val (.ref a1)] [(.ref a1)])) rfl rfl (hb hby dx_prog_16_method_5_code_1)
  obtain ⟨fs, hr, hrun, hended, hW, hsame⟩ := X97.leave (v := some (.long q)) (fun h => by rw [Bd.returns] at h; cases h)
  refine ⟨_, _, pre0 _ ?_, hrun, hended, _, _, rfl, ?_, ⟨_, rfl⟩, hW, hsame.mono (Nat.le_of_ble_eq_true rfl) (Nat.le_of_ble_eq_true rfl)⟩
  · show Steps p.tables e below (s₁.setTop (mkF m 0 #[.val (.ref a1)] [])) _
    refine XS.aloadN X0.here hx rfl (hb hby dx_prog_16_method_5_code_0) rfl rfl ?_
    show Steps p.tables e below (s₁.setTop (mkF m 1 #[.val (.ref a1)] [(.ref a1)])) _
    refine st97 _ ?_
    show Steps p.tables e below (T97.setTop (mkF m 4 #[.val (.ref a1)] [(.long q)])) _
    exact retOut X97 hx Bd.returns rfl (Or.inr (Or.inl ⟨rfl, rfl, _, rfl⟩)) (hb hby dx_prog_16_method_5_code_4) hr
  · show QG_hadToWaitCount Z ns a1 q h0 n0 _ T97.heap _
    rw [e97]
    exact ⟨rfl, N0, rfl⟩
theorem dx_prog_16_method_6_code_0 : decode prog_16_method_6_code 0 = .ok (.aload_n 0, 1) := by decide +kernel
theorem dx_prog_16_method_6_code_1 : decode prog_16_method_6_code 1 = .ok (.getfield 33, 3) := by decide +kernel
theorem dx_prog_16_method_6_code_4 : decode prog_16_method_6_code 4 = .ok (.lreturn, 1) := by decide +kernel
def QG_averageWaitTime (Z : State) (ns : Addr) (a1 : Addr) (q : Int64) (h0 : Heap) (n0 : Nat) (v : Option Value) (h : Heap) (L : List Loc) : Prop := v = some (.long q) ∧ Fr n0 L ∧ h = h0
theorem ef_prog_16_method_6_code_R (m : MethodId) (x0 : Addr) : entryFrame m #[(.ref x0)] 1 = mkF m 0 #[.val (.ref x0)] [] := by first | (simp [entryFrame, mkF, argsToLocals, Value.category]; done) | rfl
abbrev y8 : MethodName := ⟨"com/example/cistern/cistern/PoolState", "getAverageWaitTime", "()J"⟩
set_option maxRecDepth 65536 in
set_option maxHeartbeats 40000000 in
theorem rmG_averageWaitTime (l : Launch) (Z : State) (a0 : Array Value) (ns : Addr) (hG : Glob Z a0 ns) (ws : List Jvm.Cond) (a1 : Addr) (q : Int64) (h0 : Heap) (n0 : Nat) (Z0 : n0 ≤ h0.size) (X00 : Old Z n0 h0) (F_averageWaitTime_a1 : Fld Z h0 a1 "com/example/cistern/cistern/PoolState" "averageWaitTime" "J" (.long q)) :
    MetFree l y8 (head1 (Jvm.Cond.code y8 prog_16_method_6_code 1 (some .long) :: ws) ({ frames := 0, cells := 0, slots := 0, locals := 0 } : Room)) (fun a U => a = #[(.ref a1)] ∧ Z.Warmed39 U.vm ∧ U.heap = h0) (fun _ _ _ _ _ => True) (fun _ U o U' => ∃ v L, o = .returned v ∧ QG_averageWaitTime Z ns a1 q h0 n0 v U'.heap L ∧ FrameEnd U o U' L ({ frames := 0, cells := 0, slots := 0, locals := 0 } : Room).cells ({ frames := 0, cells := 0, slots := 0, locals := 0 } : Room).slots) := by
  obtain ⟨hw, O_ns, O_ens, O_scale, O_ratio⟩ := id hG
  have W : ∀ (i : Nat) {d : Jvm.Cond}, tables_1[i]? = some d → d.before a0 Z = true := fun i d h => hw d (List.mem_of_getElem? h)
  refine MetFree.of_bodySF (plainFor_of_name pn_com_example_cistern_cistern_PoolState) hisR ?_
  intro p e s m args below meth c s₁ Bd hml0 hP hK
  obtain ⟨rfl, hZ, hh⟩ := hP
  have hx := Bd.exec
  have hby := Bd.bytes
  have hml : c.maxLocals = 1 := hml0
  have hown : s.vm.findClass "com/example/cistern/cistern/PoolState" = some m.cls := findClass_of_methodNamed Bd.named
  have hnm := (name_of_methodNamed Bd.named Bd.method).1
  have X0 : Stand p l e ({ frames := 0, cells := 0, slots := 0, locals := 0 } : Room) s m #[(.ref a1)] below meth c s₁ [] 0 0 := Stand.of_body Bd
  have e0 : s₁.heap = h0 := by rw [← hh, Bd.state]; rfl
  have N0 := Fr.nil n0
  have pre0 : ∀ t, Steps p.tables e below (s₁.setTop (mkF m 0 #[.val (.ref a1)] [])) t → Steps p.tables e below (s₁.setTop (entryFrame m #[(.ref a1)] 1)) t := fun t kk_ => castTop (ef_prog_16_method_6_code_R m a1) kk_
  obtain ⟨T98, X98, e98, st98⟩ := getF X0 hx hZ hown (host := "") (Or.inl (W 80 rfl)) Via.refl e0 F_averageWaitTime_a1 (g := (mkF m 1 #[.val (.ref a1)] [(.ref a1)])) rfl rfl (hb hby dx_prog_16_method_6_code_1)
  obtain ⟨fs, hr, hrun, hended, hW, hsame⟩ := X98.leave (v := some (.long q)) (fun h => by rw [Bd.returns] at h; cases h)
  refine ⟨_, _, pre0 _ ?_, hrun, hended, _, _, rfl, ?_, ⟨_, rfl⟩, hW, hsame.mono (Nat.le_of_ble_eq_true rfl) (Nat.le_of_ble_eq_true rfl)⟩
  · show Steps p.tables e below (s₁.setTop (mkF m 0 #[.val (.ref a1)] [])) _
    refine XS.aloadN X0.here hx rfl (hb hby dx_prog_16_method_6_code_0) rfl rfl ?_
    show Steps p.tables e below (s₁.setTop (mkF m 1 #[.val (.ref a1)] [(.ref a1)])) _
    refine st98 _ ?_
    show Steps p.tables e below (T98.setTop (mkF m 4 #[.val (.ref a1)] [(.long q)])) _
    exact retOut X98 hx Bd.returns rfl (Or.inr (Or.inl ⟨rfl, rfl, _, rfl⟩)) (hb hby dx_prog_16_method_6_code_4) hr
  · show QG_averageWaitTime Z ns a1 q h0 n0 _ T98.heap _
    rw [e98]
    exact ⟨rfl, N0, rfl⟩
theorem dx_prog_16_method_7_code_0 : decode prog_16_method_7_code 0 = .ok (.aload_n 0, 1) := by decide +kernel
theorem dx_prog_16_method_7_code_1 : decode prog_16_method_7_code 1 = .ok (.getfield 39, 3) := by decide +kernel
theorem dx_prog_16_method_7_code_4 : decode prog_16_method_7_code 4 = .ok (.lreturn, 1) := by decide +kernel
def QG_badConnectionCount (Z : State) (ns : Addr) (a1 : Addr) (q : Int64) (h0 : Heap) (n0 : Nat) (v : Option Value) (h : Heap) (L : List Loc) : Prop := v = some (.long q) ∧ Fr n0 L ∧ h = h0
theorem ef_prog_16_method_7_code_R (m : MethodId) (x0 : Addr) : entryFrame m #[(.ref x0)] 1 = mkF m 0 #[.val (.ref x0)] [] := by first | (simp [entryFrame, mkF, argsToLocals, Value.category]; done) | rfl
abbrev y9 : MethodName := ⟨"com/example/cistern/cistern/PoolState", "getBadConnectionCount", "()J"⟩
set_option maxRecDepth 65536 in
set_option maxHeartbeats 40000000 in
theorem rmG_badConnectionCount (l : Launch) (Z : State) (a0 : Array Value) (ns : Addr) (hG : Glob Z a0 ns) (ws : List Jvm.Cond) (a1 : Addr) (q : Int64) (h0 : Heap) (n0 : Nat) (Z0 : n0 ≤ h0.size) (X00 : Old Z n0 h0) (F_badConnectionCount_a1 : Fld Z h0 a1 "com/example/cistern/cistern/PoolState" "badConnectionCount" "J" (.long q)) :
    MetFree l y9 (head1 (Jvm.Cond.code y9 prog_16_method_7_code 1 (some .long) :: ws) ({ frames := 0, cells := 0, slots := 0, locals := 0 } : Room)) (fun a U => a = #[(.ref a1)] ∧ Z.Warmed39 U.vm ∧ U.heap = h0) (fun _ _ _ _ _ => True) (fun _ U o U' => ∃ v L, o = .returned v ∧ QG_badConnectionCount Z ns a1 q h0 n0 v U'.heap L ∧ FrameEnd U o U' L ({ frames := 0, cells := 0, slots := 0, locals := 0 } : Room).cells ({ frames := 0, cells := 0, slots := 0, locals := 0 } : Room).slots) := by
  obtain ⟨hw, O_ns, O_ens, O_scale, O_ratio⟩ := id hG
  have W : ∀ (i : Nat) {d : Jvm.Cond}, tables_1[i]? = some d → d.before a0 Z = true := fun i d h => hw d (List.mem_of_getElem? h)
  refine MetFree.of_bodySF (plainFor_of_name pn_com_example_cistern_cistern_PoolState) hisR ?_
  intro p e s m args below meth c s₁ Bd hml0 hP hK
  obtain ⟨rfl, hZ, hh⟩ := hP
  have hx := Bd.exec
  have hby := Bd.bytes
  have hml : c.maxLocals = 1 := hml0
  have hown : s.vm.findClass "com/example/cistern/cistern/PoolState" = some m.cls := findClass_of_methodNamed Bd.named
  have hnm := (name_of_methodNamed Bd.named Bd.method).1
  have X0 : Stand p l e ({ frames := 0, cells := 0, slots := 0, locals := 0 } : Room) s m #[(.ref a1)] below meth c s₁ [] 0 0 := Stand.of_body Bd
  have e0 : s₁.heap = h0 := by rw [← hh, Bd.state]; rfl
  have N0 := Fr.nil n0
  have pre0 : ∀ t, Steps p.tables e below (s₁.setTop (mkF m 0 #[.val (.ref a1)] [])) t → Steps p.tables e below (s₁.setTop (entryFrame m #[(.ref a1)] 1)) t := fun t kk_ => castTop (ef_prog_16_method_7_code_R m a1) kk_
  obtain ⟨T99, X99, e99, st99⟩ := getF X0 hx hZ hown (host := "") (Or.inl (W 83 rfl)) Via.refl e0 F_badConnectionCount_a1 (g := (mkF m 1 #[.val (.ref a1)] [(.ref a1)])) rfl rfl (hb hby dx_prog_16_method_7_code_1)
  obtain ⟨fs, hr, hrun, hended, hW, hsame⟩ := X99.leave (v := some (.long q)) (fun h => by rw [Bd.returns] at h; cases h)
  refine ⟨_, _, pre0 _ ?_, hrun, hended, _, _, rfl, ?_, ⟨_, rfl⟩, hW, hsame.mono (Nat.le_of_ble_eq_true rfl) (Nat.le_of_ble_eq_true rfl)⟩
  · show Steps p.tables e below (s₁.setTop (mkF m 0 #[.val (.ref a1)] [])) _
    refine XS.aloadN X0.here hx rfl (hb hby dx_prog_16_method_7_code_0) rfl rfl ?_
    show Steps p.tables e below (s₁.setTop (mkF m 1 #[.val (.ref a1)] [(.ref a1)])) _
    refine st99 _ ?_
    show Steps p.tables e below (T99.setTop (mkF m 4 #[.val (.ref a1)] [(.long q)])) _
    exact retOut X99 hx Bd.returns rfl (Or.inr (Or.inl ⟨rfl, rfl, _, rfl⟩)) (hb hby dx_prog_16_method_7_code_4) hr
  · show QG_badConnectionCount Z ns a1 q h0 n0 _ T99.heap _
    rw [e99]
    exact ⟨rfl, N0, rfl⟩
theorem dx_prog_16_method_8_code_0 : decode prog_16_method_8_code 0 = .ok (.aload_n 0, 1) := by decide +kernel
theorem dx_prog_16_method_8_code_1 : decode prog_16_method_8_code 1 = .ok (.getfield 43, 3) := by decide +kernel
theorem dx_prog_16_method_8_code_4 : decode prog_16_method_8_code 4 = .ok (.lreturn, 1) := by decide +kernel
def QG_claimedOverdueConnectionCount (Z : State) (ns : Addr) (a1 : Addr) (q : Int64) (h0 : Heap) (n0 : Nat) (v : Option Value) (h : Heap) (L : List Loc) : Prop := v = some (.long q) ∧ Fr n0 L ∧ h = h0
theorem ef_prog_16_method_8_code_R (m : MethodId) (x0 : Addr) : entryFrame m #[(.ref x0)] 1 = mkF m 0 #[.val (.ref x0)] [] := by first | (simp [entryFrame, mkF, argsToLocals, Value.category]; done) | rfl
abbrev y10 : MethodName := ⟨"com/example/cistern/cistern/PoolState", "getClaimedOverdueConnectionCount", "()J"⟩
set_option maxRecDepth 65536 in
set_option maxHeartbeats 40000000 in
theorem rmG_claimedOverdueConnectionCount (l : Launch) (Z : State) (a0 : Array Value) (ns : Addr) (hG : Glob Z a0 ns) (ws : List Jvm.Cond) (a1 : Addr) (q : Int64) (h0 : Heap) (n0 : Nat) (Z0 : n0 ≤ h0.size) (X00 : Old Z n0 h0) (F_claimedOverdueConnectionCount_a1 : Fld Z h0 a1 "com/example/cistern/cistern/PoolState" "claimedOverdueConnectionCount" "J" (.long q)) :
    MetFree l y10 (head1 (Jvm.Cond.code y10 prog_16_method_8_code 1 (some .long) :: ws) ({ frames := 0, cells := 0, slots := 0, locals := 0 } : Room)) (fun a U => a = #[(.ref a1)] ∧ Z.Warmed39 U.vm ∧ U.heap = h0) (fun _ _ _ _ _ => True) (fun _ U o U' => ∃ v L, o = .returned v ∧ QG_claimedOverdueConnectionCount Z ns a1 q h0 n0 v U'.heap L ∧ FrameEnd U o U' L ({ frames := 0, cells := 0, slots := 0, locals := 0 } : Room).cells ({ frames := 0, cells := 0, slots := 0, locals := 0 } : Room).slots) := by
  obtain ⟨hw, O_ns, O_ens, O_scale, O_ratio⟩ := id hG
  have W : ∀ (i : Nat) {d : Jvm.Cond}, tables_1[i]? = some d → d.before a0 Z = true := fun i d h => hw d (List.mem_of_getElem? h)
  refine MetFree.of_bodySF (plainFor_of_name pn_com_example_cistern_cistern_PoolState) hisR ?_
  intro p e s m args below meth c s₁ Bd hml0 hP hK
  obtain ⟨rfl, hZ, hh⟩ := hP
  have hx := Bd.exec
  have hby := Bd.bytes
  have hml : c.maxLocals = 1 := hml0
  have hown : s.vm.findClass "com/example/cistern/cistern/PoolState" = some m.cls := findClass_of_methodNamed Bd.named
  have hnm := (name_of_methodNamed Bd.named Bd.method).1
  have X0 : Stand p l e ({ frames := 0, cells := 0, slots := 0, locals := 0 } : Room) s m #[(.ref a1)] below meth c s₁ [] 0 0 := Stand.of_body Bd
  have e0 : s₁.heap = h0 := by rw [← hh, Bd.state]; rfl
  have N0 := Fr.nil n0
  have pre0 : ∀ t, Steps p.tables e below (s₁.setTop (mkF m 0 #[.val (.ref a1)] [])) t → Steps p.tables e below (s₁.setTop (entryFrame m #[(.ref a1)] 1)) t := fun t kk_ => castTop (ef_prog_16_method_8_code_R m a1) kk_
  obtain ⟨T100, X100, e100, st100⟩ := getF X0 hx hZ hown (host := "") (Or.inl (W 86 rfl)) Via.refl e0 F_claimedOverdueConnectionCount_a1 (g := (mkF m 1 #[.val (.ref a1)] [(.ref a1)])) rfl rfl (hb hby dx_prog_16_method_8_code_1)
  obtain ⟨fs, hr, hrun, hended, hW, hsame⟩ := X100.leave (v := some (.long q)) (fun h => by rw [Bd.returns] at h; cases h)
  refine ⟨_, _, pre0 _ ?_, hrun, hended, _, _, rfl, ?_, ⟨_, rfl⟩, hW, hsame.mono (Nat.le_of_ble_eq_true rfl) (Nat.le_of_ble_eq_true rfl)⟩
  · show Steps p.tables e below (s₁.setTop (mkF m 0 #[.val (.ref a1)] [])) _
    refine XS.aloadN X0.here hx rfl (hb hby dx_prog_16_method_8_code_0) rfl rfl ?_
    show Steps p.tables e below (s₁.setTop (mkF m 1 #[.val (.ref a1)] [(.ref a1)])) _
    refine st100 _ ?_
    show Steps p.tables e below (T100.setTop (mkF m 4 #[.val (.ref a1)] [(.long q)])) _
    exact retOut X100 hx Bd.returns rfl (Or.inr (Or.inl ⟨rfl, rfl, _, rfl⟩)) (hb hby dx_prog_16_method_8_code_4) hr
  · show QG_claimedOverdueConnectionCount Z ns a1 q h0 n0 _ T100.heap _
    rw [e100]
    exact ⟨rfl, N0, rfl⟩
theorem dx_prog_16_method_9_code_0 : decode prog_16_method_9_code 0 = .ok (.aload_n 0, 1) := by decide +kernel
theorem dx_prog_16_method_9_code_1 : decode prog_16_method_9_code 1 = .ok (.getfield 49, 3) := by decide +kernel
theorem dx_prog_16_method_9_code_4 : decode prog_16_method_9_code 4 = .ok (.lreturn, 1) := by decide +kernel
def QG_averageOverdueCheckoutTime (Z : State) (ns : Addr) (a1 : Addr) (q : Int64) (h0 : Heap) (n0 : Nat) (v : Option Value) (h : Heap) (L : List Loc) : Prop := v = some (.long q) ∧ Fr n0 L ∧ h = h0
theorem ef_prog_16_method_9_code_R (m : MethodId) (x0 : Addr) : entryFrame m #[(.ref x0)] 1 = mkF m 0 #[.val (.ref x0)] [] := by first | (simp [entryFrame, mkF, argsToLocals, Value.category]; done) | rfl
abbrev y11 : MethodName := ⟨"com/example/cistern/cistern/PoolState", "getAverageOverdueCheckoutTime", "()J"⟩
set_option maxRecDepth 65536 in
set_option maxHeartbeats 40000000 in
theorem rmG_averageOverdueCheckoutTime (l : Launch) (Z : State) (a0 : Array Value) (ns : Addr) (hG : Glob Z a0 ns) (ws : List Jvm.Cond) (a1 : Addr) (q : Int64) (h0 : Heap) (n0 : Nat) (Z0 : n0 ≤ h0.size) (X00 : Old Z n0 h0) (F_averageOverdueCheckoutTime_a1 : Fld Z h0 a1 "com/example/cistern/cistern/PoolState" "averageOverdueCheckoutTime" "J" (.long q)) :
    MetFree l y11 (head1 (Jvm.Cond.code y11 prog_16_method_9_code 1 (some .long) :: ws) ({ frames := 0, cells := 0, slots := 0, locals := 0 } : Room)) (fun a U => a = #[(.ref a1)] ∧ Z.Warmed39 U.vm ∧ U.heap = h0) (fun _ _ _ _ _ => True) (fun _ U o U' => ∃ v L, o = .returned v ∧ QG_averageOverdueCheckoutTime Z ns a1 q h0 n0 v U'.heap L ∧ FrameEnd U o U' L ({ frames := 0, cells := 0, slots := 0, locals := 0 } : Room).cells ({ frames := 0, cells := 0, slots := 0, locals := 0 } : Room).slots) := by
  obtain ⟨hw, O_ns, O_ens, O_scale, O_ratio⟩ := id hG
  have W : ∀ (i : Nat) {d : Jvm.Cond}, tables_1[i]? = some d → d.before a0 Z = true := fun i d h => hw d (List.mem_of_getElem? h)
  refine MetFree.of_bodySF (plainFor_of_name pn_com_example_cistern_cistern_PoolState) hisR ?_
  intro p e s m args below meth c s₁ Bd hml0 hP hK
  obtain ⟨rfl, hZ, hh⟩ := hP
  have hx := Bd.exec
  have hby := Bd.bytes
  have hml : c.maxLocals = 1 := hml0
  have hown : s.vm.findClass "com/example/cistern/cistern/PoolState" = some m.cls := findClass_of_methodNamed Bd.named
  have hnm := (name_of_methodNamed Bd.named Bd.method).1
  have X0 : Stand p l e ({ frames := 0, cells := 0, slots := 0, locals := 0 } : Room) s m #[(.ref a1)] below meth c s₁ [] 0 0 := Stand.of_body Bd
  have e0 : s₁.heap = h0 := by rw [← hh, Bd.state]; rfl
  have N0 := Fr.nil n0
  have pre0 : ∀ t, Steps p.tables e below (s₁.setTop (mkF m 0 #[.val (.ref a1)] [])) t → Steps p.tables e below (s₁.setTop (entryFrame m #[(.ref a1)] 1)) t := fun t kk_ => castTop (ef_prog_16_method_9_code_R m a1) kk_
  obtain ⟨T101, X101, e101, st101⟩ := getF X0 hx hZ hown (host := "") (Or.inl (W 89 rfl)) Via.refl e0 F_averageOverdueCheckoutTime_a1 (g := (mkF m 1 #[.val (.ref a1)] [(.ref a1)])) rfl rfl (hb hby dx_prog_16_method_9_code_1)
  obtain ⟨fs, hr, hrun, hended, hW, hsame⟩ := X101.leave (v := some (.long q)) (fun h => by rw [Bd.returns] at h; cases h)
  refine ⟨_, _, pre0 _ ?_, hrun, hended, _, _, rfl, ?_, ⟨_, rfl⟩, hW, hsame.mono (Nat.le_of_ble_eq_true rfl) (Nat.le_of_ble_eq_true rfl)⟩
  · show Steps p.tables e below (s₁.setTop (mkF m 0 #[.val (.ref a1)] [])) _
    refine XS.aloadN X0.here hx rfl (hb hby dx_prog_16_method_9_code_0) rfl rfl ?_
    show Steps p.tables e below (s₁.setTop (mkF m 1 #[.val (.ref a1)] [(.ref a1)])) _
    refine st101 _ ?_
    show Steps p.tables e below (T101.setTop (mkF m 4 #[.val (.ref a1)] [(.long q)])) _
    exact retOut X101 hx Bd.returns rfl (Or.inr (Or.inl ⟨rfl, rfl, _, rfl⟩)) (hb hby dx_prog_16_method_9_code_4) hr
  · show QG_averageOverdueCheckoutTime Z ns a1 q h0 n0 _ T101.heap _
    rw [e101]
    exact ⟨rfl, N0, rfl⟩
theorem dx_prog_16_method_10_code_0 : decode prog_16_method_10_code 0 = .ok (.aload_n 0, 1) := by decide +kernel
theorem dx_prog_16_method_10_code_1 : decode prog_16_method_10_code 1 = .ok (.getfield 58, 3) := by decide +kernel
theorem dx_prog_16_method_10_code_4 : decode prog_16_method_10_code 4 = .ok (.lreturn, 1) := by decide +kernel
def QG_averageCheckoutTime (Z : State) (ns : Addr) (a1 : Addr) (q : Int64) (h0 : Heap) (n0 : Nat) (v : Option Value) (h : Heap) (L : List Loc) : Prop := v = some (.long q) ∧ Fr n0 L ∧ h = h0
theorem ef_prog_16_method_10_code_R (m : MethodId) (x0 : Addr) : entryFrame m #[(.ref x0)] 1 = mkF m 0 #[.val (.ref x0)] [] := by first | (simp [entryFrame, mkF, argsToLocals, Value.category]; done) | rfl
abbrev y12 : MethodName := ⟨"com/example/cistern/cistern/PoolState", "getAverageCheckoutTime", "()J"⟩
set_option maxRecDepth 65536 in
set_option maxHeartbeats 40000000 in
theorem rmG_averageCheckoutTime (l : Launch) (Z : State) (a0 : Array Value) (ns : Addr) (hG : Glob Z a0 ns) (ws : List Jvm.Cond) (a1 : Addr) (q : Int64) (h0 : Heap) (n0 : Nat) (Z0 : n0 ≤ h0.size) (X00 : Old Z n0 h0) (F_averageCheckoutTime_a1 : Fld Z h0 a1 "com/example/cistern/cistern/PoolState" "averageCheckoutTime" "J" (.long q)) :
    MetFree l y12 (head1 (Jvm.Cond.code y12 prog_16_method_10_code 1 (some .long) :: ws) ({ frames := 0, cells := 0, slots := 0, locals := 0 } : Room)) (fun a U => a = #[(.ref a1)] ∧ Z.Warmed39 U.vm ∧ U.heap = h0) (fun _ _ _ _ _ => True) (fun _ U o U' => ∃ v L, o = .returned v ∧ QG_averageCheckoutTime Z ns a1 q h0 n0 v U'.heap L ∧ FrameEnd U o U' L ({ frames := 0, cells := 0, slots := 0, locals := 0 } : Room).cells ({ frames := 0, cells := 0, slots := 0, locals := 0 } : Room).slots) := by
  obtain ⟨hw, O_ns, O_ens, O_scale, O_ratio⟩ := id hG
  have W : ∀ (i : Nat) {d : Jvm.Cond}, tables_1[i]? = some d → d.before a0 Z = true := fun i d h => hw d (List.mem_of_getElem? h)
  refine MetFree.of_bodySF (plainFor_of_name pn_com_example_cistern_cistern_PoolState) hisR ?_
  intro p e s m args below meth c s₁ Bd hml0 hP hK
  obtain ⟨rfl, hZ, hh⟩ := hP
  have hx := Bd.exec
  have hby := Bd.bytes
  have hml : c.maxLocals = 1 := hml0
  have hown : s.vm.findClass "com/example/cistern/cistern/PoolState" = some m.cls := findClass_of_methodNamed Bd.named
  have hnm := (name_of_methodNamed Bd.named Bd.method).1
  have X0 : Stand p l e ({ frames := 0, cells := 0, slots := 0, locals := 0 } : Room) s m #[(.ref a1)] below meth c s₁ [] 0 0 := Stand.of_body Bd
  have e0 : s₁.heap = h0 := by rw [← hh, Bd.state]; rfl
  have N0 := Fr.nil n0
  have pre0 : ∀ t, Steps p.tables e below (s₁.setTop (mkF m 0 #[.val (.ref a1)] [])) t → Steps p.tables e below (s₁.setTop (entryFrame m #[(.ref a1)] 1)) t := fun t kk_ => castTop (ef_prog_16_method_10_code_R m a1) kk_
  obtain ⟨T102, X102, e102, st102⟩ := getF X0 hx hZ hown (host := "") (Or.inl (W 93 rfl)) Via.refl e0 F_averageCheckoutTime_a1 (g := (mkF m 1 #[.val (.ref a1)] [(.ref a1)])) rfl rfl (hb hby dx_prog_16_method_10_code_1)
  obtain ⟨fs, hr, hrun, hended, hW, hsame⟩ := X102.leave (v := some (.long q)) (fun h => by rw [Bd.returns] at h; cases h)
  refine ⟨_, _, pre0 _ ?_, hrun, hended, _, _, rfl, ?_, ⟨_, rfl⟩, hW, hsame.mono (Nat.le_of_ble_eq_true rfl) (Nat.le_of_ble_eq_true rfl)⟩
  · show Steps p.tables e below (s₁.setTop (mkF m 0 #[.val (.ref a1)] [])) _
    refine XS.aloadN X0.here hx rfl (hb hby dx_prog_16_method_10_code_0) rfl rfl ?_
    show Steps p.tables e below (s₁.setTop (mkF m 1 #[.val (.ref a1)] [(.ref a1)])) _
    refine st102 _ ?_
    show Steps p.tables e below (T102.setTop (mkF m 4 #[.val (.ref a1)] [(.long q)])) _
    exact retOut X102 hx Bd.returns rfl (Or.inr (Or.inl ⟨rfl, rfl, _, rfl⟩)) (hb hby dx_prog_16_method_10_code_4) hr
  · show QG_averageCheckoutTime Z ns a1 q h0 n0 _ T102.heap _
    rw [e102]
    exact ⟨rfl, N0, rfl⟩
theorem dx_prog_16_method_14_code_0 : decode prog_16_method_14_code 0 = .ok (.aload_n 0, 1) := by decide +kernel
theorem dx_prog_16_method_14_code_1 : decode prog_16_method_14_code 1 = .ok (.getfield 74, 3) := by decide +kernel
theorem dx_prog_16_method_14_code_4 : decode prog_16_method_14_code 4 = .ok (.lreturn, 1) := by decide +kernel
def QG_connectionsOpened (Z : State) (ns : Addr) (a1 : Addr) (q : Int64) (h0 : Heap) (n0 : Nat) (v : Option Value) (h : Heap) (L : List Loc) : Prop := v = some (.long q) ∧ Fr n0 L ∧ h = h0
theorem ef_prog_16_method_14_code_R (m : MethodId) (x0 : Addr) : entryFrame m #[(.ref x0)] 1 = mkF m 0 #[.val (.ref x0)] [] := by first | (simp [entryFrame, mkF, argsToLocals, Value.category]; done) | rfl
abbrev y13 : MethodName := ⟨"com/example/cistern/cistern/PoolState", "getConnectionsOpened", "()J"⟩
set_option maxRecDepth 65536 in
set_option maxHeartbeats 40000000 in
theorem rmG_connectionsOpened (l : Launch) (Z : State) (a0 : Array Value) (ns : Addr) (hG : Glob Z a0 ns) (ws : List Jvm.Cond) (a1 : Addr) (q : Int64) (h0 : Heap) (n0 : Nat) (Z0 : n0 ≤ h0.size) (X00 : Old Z n0 h0) (F_connectionsOpened_a1 : Fld Z h0 a1 "com/example/cistern/cistern/PoolState" "connectionsOpened" "J" (.long q)) :
    MetFree l y13 (head1 (Jvm.Cond.code y13 prog_16_method_14_code 1 (some .long) :: ws) ({ frames := 0, cells := 0, slots := 0, locals := 0 } : Room)) (fun a U => a = #[(.ref a1)] ∧ Z.Warmed39 U.vm ∧ U.heap = h0) (fun _ _ _ _ _ => True) (fun _ U o U' => ∃ v L, o = .returned v ∧ QG_connectionsOpened Z ns a1 q h0 n0 v U'.heap L ∧ FrameEnd U o U' L ({ frames := 0, cells := 0, slots := 0, locals := 0 } : Room).cells ({ frames := 0, cells := 0, slots := 0, locals := 0 } : Room).slots) := by
  obtain ⟨hw, O_ns, O_ens, O_scale, O_ratio⟩ := id hG
  have W : ∀ (i : Nat) {d : Jvm.Cond}, tables_1[i]? = some d → d.before a0 Z = true := fun i d h => hw d (List.mem_of_getElem? h)
  refine MetFree.of_bodySF (plainFor_of_name pn_com_example_cistern_cistern_PoolState) hisR ?_
  intro p e s m args below meth c s₁ Bd hml0 hP hK
  obtain ⟨rfl, hZ, hh⟩ := hP
  have hx := Bd.exec
  have hby := Bd.bytes
  have hml : c.maxLocals = 1 := hml0
  have hown : s.vm.findClass "com/example/cistern/cistern/PoolState" = some m.cls := findClass_of_methodNamed Bd.named
  have hnm := (name_of_methodNamed Bd.named Bd.method).1
  have X0 : Stand p l e ({ frames := 0, cells := 0, slots := 0, locals := 0 } : Room) s m #[(.ref a1)] below meth c s₁ [] 0 0 := Stand.of_body Bd
  have e0 : s₁.heap = h0 := by rw [← hh, Bd.state]; rfl
  have N0 := Fr.nil n0
  have pre0 : ∀ t, Steps p.tables e below (s₁.setTop (mkF m 0 #[.val (.ref a1)] [])) t → Steps p.tables e below (s₁.setTop (entryFrame m #[(.ref a1)] 1)) t := fun t kk_ => castTop (ef_prog_16_method_14_code_R m a1) kk_
  obtain ⟨T103, X103, e103, st103⟩ := getF X0 hx hZ hown (host := "") (Or.inl (W 102 rfl)) Via.refl e0 F_connectionsOpened_a1 (g := (mkF m 1 #[.val (.ref a1)] [(.ref a1)])) rfl rfl (hb hby dx_prog_16_method_14_code_1)
  obtain ⟨fs, hr, hrun, hended, hW, hsame⟩ := X103.leave (v := some (.long q)) (fun h => by rw [Bd.returns] at h; cases h)
  refine ⟨_, _, pre0 _ ?_, hrun, hended, _, _, rfl, ?_, ⟨_, rfl⟩, hW, hsame.mono (Nat.le_of_ble_eq_true rfl) (Nat.le_of_ble_eq_true rfl)⟩
  · show Steps p.tables e below (s₁.setTop (mkF m 0 #[.val (.ref a1)] [])) _
    refine XS.aloadN X0.here hx rfl (hb hby dx_prog_16_method_14_code_0) rfl rfl ?_
    show Steps p.tables e below (s₁.setTop (mkF m 1 #[.val (.ref a1)] [(.ref a1)])) _
    refine st103 _ ?_
    show Steps p.tables e below (T103.setTop (mkF m 4 #[.val (.ref a1)] [(.long q)])) _
    exact retOut X103 hx Bd.returns rfl (Or.inr (Or.inl ⟨rfl, rfl, _, rfl⟩)) (hb hby dx_prog_16_method_14_code_4) hr
  · show QG_connectionsOpened Z ns a1 q h0 n0 _ T103.heap _
    rw [e103]
    exact ⟨rfl, N0, rfl⟩
theorem dx_prog_17_method_2_code_0 : decode prog_17_method_2_code 0 = .ok (.aload_n 0, 1) := by decide +kernel
theorem dx_prog_17_method_2_code_1 : decode prog_17_method_2_code 1 = .ok (.dup, 1) := by decide +kernel
theorem dx_prog_17_method_2_code_2 : decode prog_17_method_2_code 2 = .ok (.getfield 7, 3) := by decide +kernel
theorem dx_prog_17_method_2_code_5 : decode prog_17_method_2_code 5 = .ok (.lconst 1, 1) := by decide +kernel
theorem dx_prog_17_method_2_code_6 : decode prog_17_method_2_code 6 = .ok (.ladd, 1) := by decide +kernel
theorem dx_prog_17_method_2_code_7 : decode prog_17_method_2_code 7 = .ok (.putfield 7, 3) := by decide +kernel
theorem dx_prog_17_method_2_code_10 : decode prog_17_method_2_code 10 = .ok (.aload_n 0, 1) := by decide +kernel
theorem dx_prog_17_method_2_code_11 : decode prog_17_method_2_code 11 = .ok (.dup, 1) := by decide +kernel
theorem dx_prog_17_method_2_code_12 : decode prog_17_method_2_code 12 = .ok (.getfield 13, 3) := by decide +kernel
theorem dx_prog_17_method_2_code_15 : decode prog_17_method_2_code 15 = .ok (.lload_n 1, 1) := by decide +kernel
theorem dx_prog_17_method_2_code_16 : decode prog_17_method_2_code 16 = .ok (.ladd, 1) := by decide +kernel
theorem dx_prog_17_method_2_code_17 : decode prog_17_method_2_code 17 = .ok (.putfield 13, 3) := by decide +kernel
theorem dx_prog_17_method_2_code_20 : decode prog_17_method_2_code 20 = .ok (.return_, 1) := by decide +kernel
def Qlent (Z : State) (ns : Addr) (a2 : Addr) (q : Int64) (c0 : Int64) (c1 : Int64) (c2 : Int64) (c3 : Int64) (c4 : Int64) (c5 : Int64) (c6 : Int64) (c7 : Int64) (c8 : Int64) (c9 : Int64) (h0 : Heap) (n0 : Nat) (v : Option Value) (h : Heap) (L : List Loc) : Prop := v = none ∧ Fr n0 L ∧ Keep h0 h [a2] ∧ Exa Z h a2 "com/example/cistern/cistern/PoolState$Counters" ∧ Fld Z h a2 "com/example/cistern/cistern/PoolState$Counters" "requestCount" "J" (.long (c0 + (1 : Int64))) ∧ Fld Z h a2 "com/example/cistern/cistern/PoolState$Counters" "requestNanos" "J" (.long (c1 + q)) ∧ Fld Z h a2 "com/example/cistern/cistern/PoolState$Counters" "hadToWaitCount" "J" (.long c2) ∧ Fld Z h a2 "com/example/cistern/cistern/PoolState$Counters" "waitNanos" "J" (.long c3) ∧ Fld Z h a2 "com/example/cistern/cistern/PoolState$Counters" "badConnectionCount" "J" (.long c4) ∧ Fld Z h a2 "com/example/cistern/cistern/PoolState$Counters" "claimedOverdueCount" "J" (.long c5) ∧ Fld Z h a2 "com/example/cistern/cistern/PoolState$Counters" "overdueCheckoutNanos" "J" (.long c6) ∧ Fld Z h a2 "com/example/cistern/cistern/PoolState$Counters" "checkoutCount" "J" (.long c7) ∧ Fld Z h a2 "com/example/cistern/cistern/PoolState$Counters" "checkoutNanos" "J" (.long c8) ∧ Fld Z h a2 "com/example/cistern/cistern/PoolState$Counters" "connectionsOpened" "J" (.long c9)
theorem ef_prog_17_method_2_code_RJ (m : MethodId) (x0 : Addr) (x1 : Int64) : entryFrame m #[(.ref x0), (.long x1)] 3 = mkF m 0 #[.val (.ref x0), .val (.long x1), .second] [] := by first | (simp [entryFrame, mkF, argsToLocals, Value.category]; done) | rfl
abbrev y14 : MethodName := ⟨"com/example/cistern/cistern/PoolState$Counters", "lent", "(J)V"⟩
set_option maxRecDepth 65536 in
set_option maxHeartbeats 40000000 in
theorem rmlent (l : Launch) (Z : State) (a0 : Array Value) (ns : Addr) (hG : Glob Z a0 ns) (ws : List Jvm.Cond) (a2 : Addr) (q : Int64) (c0 : Int64) (c1 : Int64) (c2 : Int64) (c3 : Int64) (c4 : Int64) (c5 : Int64) (c6 : Int64) (c7 : Int64) (c8 : Int64) (c9 : Int64) (h0 : Heap) (n0 : Nat) (Z0 : n0 ≤ h0.size) (X00 : Old Z n0 h0) (E_a2 : Exa Z h0 a2 "com/example/cistern/cistern/PoolState$Counters") (g_a2 : n0 ≤ a2) (F_requestCount_a2 : Fld Z h0 a2 "com/example/cistern/cistern/PoolState$Counters" "requestCount" "J" (.long c0)) (F_requestNanos_a2 : Fld Z h0 a2 "com/example/cistern/cistern/PoolState$Counters" "requestNanos" "J" (.long c1)) (F_hadToWaitCount_a2 : Fld Z h0 a2 "com/example/cistern/cistern/PoolState$Counters" "hadToWaitCount" "J" (.long c2)) (F_waitNanos_a2 : Fld Z h0 a2 "com/example/cistern/cistern/PoolState$Counters" "waitNanos" "J" (.long c3)) (F_badConnectionCount_a2 : Fld Z h0 a2 "com/example/cistern/cistern/PoolState$Counters" "badConnectionCount" "J" (.long c4)) (F_claimedOverdueCount_a2 : Fld Z h0 a2 "com/example/cistern/cistern/PoolState$Counters" "claimedOverdueCount" "J" (.long c5)) (F_overdueCheckoutNanos_a2 : Fld Z h0 a2 "com/example/cistern/cistern/PoolState$Counters" "overdueCheckoutNanos" "J" (.long c6)) (F_checkoutCount_a2 : Fld Z h0 a2 "com/example/cistern/cistern/PoolState$Counters" "checkoutCount" "J" (.long c7)) (F_checkoutNanos_a2 : Fld Z h0 a2 "com/example/cistern/cistern/PoolState$Counters" "checkoutNanos" "J" (.long c8)) (F_connectionsOpened_a2 : Fld Z h0 a2 "com/example/cistern/cistern/PoolState$Counters" "connectionsOpened" "J" (.long c9)) :
    MetFree l y14 (head1 (Jvm.Cond.code y14 prog_17_method_2_code 3 none :: ws) ({ frames := 0, cells := 0, slots := 0, locals := 0 } : Room)) (fun a U => a = #[(.ref a2), (.long q)] ∧ Z.Warmed39 U.vm ∧ U.heap = h0) (fun _ _ _ _ _ => True) (fun _ U o U' => ∃ v L, o = .returned v ∧ Qlent Z ns a2 q c0 c1 c2 c3 c4 c5 c6 c7 c8 c9 h0 n0 v U'.heap L ∧ FrameEnd U o U' L ({ frames := 0, cells := 0, slots := 0, locals := 0 } : Room).cells ({ frames := 0, cells := 0, slots := 0, locals := 0 } : Room).slots) := by
  obtain ⟨hw, O_ns, O_ens, O_scale, O_ratio⟩ := id hG
  have W : ∀ (i : Nat) {d : Jvm.Cond}, tables_1[i]? = some d → d.before a0 Z = true := fun i d h => hw d (List.mem_of_getElem? h)
  refine MetFree.of_bodySF (plainFor_of_name pn_com_example_cistern_cistern_PoolState_Counters) hisR ?_
  intro p e s m args below meth c s₁ Bd hml0 hP hK
  obtain ⟨rfl, hZ, hh⟩ := hP
  have hx := Bd.exec
  have hby := Bd.bytes
  have hml : c.maxLocals = 3 := hml0
  have hown : s.vm.findClass "com/example/cistern/cistern/PoolState$Counters" = some m.cls := findClass_of_methodNamed Bd.named
  have hnm := (name_of_methodNamed Bd.named Bd.method).1
  have X0 : Stand p l e ({ frames := 0, cells := 0, slots := 0, locals := 0 } : Room) s m #[(.ref a2), (.long q)] below meth c s₁ [] 0 0 := Stand.of_body Bd
  have e0 : s₁.heap = h0 := by rw [← hh, Bd.state]; rfl
  have N0 := Fr.nil n0
  have pre0 : ∀ t, Steps p.tables e below (s₁.setTop (mkF m 0 #[.val (.ref a2), .val (.long q), .second] [])) t → Steps p.tables e below (s₁.setTop (entryFrame m #[(.ref a2), (.long q)] 3)) t := fun t kk_ => castTop (ef_prog_17_method_2_code_RJ m a2 q) kk_
  obtain ⟨T104, X104, e104, st104⟩ := getF X0 hx hZ hown (host := "") (Or.inl (W 27 rfl)) Via.refl e0 F_requestCount_a2 (g := (mkF m 2 #[.val (.ref a2), .val (.long q), .second] [(.ref a2), (.ref a2)])) rfl rfl (hb hby dx_prog_17_method_2_code_2)
  obtain ⟨T105, h105, X105, e105, W105, st105⟩ := putF X104 hx hZ hown (host := "") (Or.inl (W 27 rfl)) Via.refl e104 F_requestCount_a2 E_a2 (Or.inl (W 28 rfl)) (W 1 rfl) (ty := .long) (by decide) rfl rfl (g := (mkF m 7 #[.val (.ref a2), .val (.long q), .second] [(.long (c0 + (1 : Int64))), (.ref a2)])) rfl rfl (hb hby dx_prog_17_method_2_code_7)
  have Fw105 := F_requestCount_a2.same W105
  have Z106 : n0 ≤ h105.size := Nat.le_trans Z0 (Keep.of_wr W105).1
  have K0_106 : Keep h0 h105 [a2] := (Keep.refl h0 [a2]).wr W105 (Or.inl (List.mem_of_getElem? (i := 0) rfl))
  have O106 : Old Z n0 h105 := X00.wr W105 g_a2
  have N105 := Fr.snoc X105 N0 g_a2
  have f107 := (F_requestNanos_a2.other W105 (Or.inr (slot_ne (Or.inl (W 30 rfl)) (Or.inl (W 28 rfl)) (by decide) (t := .long) (t' := .long) (by decide) (by decide))))
  obtain ⟨T108, X108, e108, st108⟩ := getF X105 hx hZ hown (host := "") (Or.inl (W 29 rfl)) Via.refl e105 f107 (g := (mkF m 12 #[.val (.ref a2), .val (.long q), .second] [(.ref a2), (.ref a2)])) rfl rfl (hb hby dx_prog_17_method_2_code_12)
  have f109 := (E_a2.wr W105)
  obtain ⟨T110, h110, X110, e110, W110, st110⟩ := putF X108 hx hZ hown (host := "") (Or.inl (W 29 rfl)) Via.refl e108 f107 f109 (Or.inl (W 30 rfl)) (W 1 rfl) (ty := .long) (by decide) rfl rfl (g := (mkF m 17 #[.val (.ref a2), .val (.long q), .second] [(.long (c1 + q)), (.ref a2)])) rfl rfl (hb hby dx_prog_17_method_2_code_17)
  have Fw110 := f107.same W110
  have Z111 : n0 ≤ h110.size := Nat.le_trans Z106 (Keep.of_wr W110).1
  have K0_111 : Keep h0 h110 [a2] := K0_106.wr W110 (Or.inl (List.mem_of_getElem? (i := 0) rfl))
  have O111 : Old Z n0 h110 := O106.wr W110 g_a2
  have N110 := Fr.snoc X110 N105 g_a2
  have f112 := (f109.wr W110)
  have f113 := (Fw105.other W110 (Or.inr (slot_ne (Or.inl (W 28 rfl)) (Or.inl (W 30 rfl)) (by decide) (t := .long) (t' := .long) (by decide) (by decide))))
  have f114 := ((F_hadToWaitCount_a2.other W105 (Or.inr (slot_ne (Or.inl (W 19 rfl)) (Or.inl (W 28 rfl)) (by decide) (t := .long) (t' := .long) (by decide) (by decide)))).other W110 (Or.inr (slot_ne (Or.inl (W 19 rfl)) (Or.inl (W 30 rfl)) (by decide) (t := .long) (t' := .long) (by decide) (by decide))))
  have f115 := ((F_waitNanos_a2.other W105 (Or.inr (slot_ne (Or.inl (W 21 rfl)) (Or.inl (W 28 rfl)) (by decide) (t := .long) (t' := .long) (by decide) (by decide)))).other W110 (Or.inr (slot_ne (Or.inl (W 21 rfl)) (Or.inl (W 30 rfl)) (by decide) (t := .long) (t' := .long) (by decide) (by decide))))
  have f116 := ((F_badConnectionCount_a2.other W105 (Or.inr (slot_ne (Or.inl (W 32 rfl)) (Or.inl (W 28 rfl)) (by decide) (t := .long) (t' := .long) (by decide) (by decide)))).other W110 (Or.inr (slot_ne (Or.inl (W 32 rfl)) (Or.inl (W 30 rfl)) (by decide) (t := .long) (t' := .long) (by decide) (by decide))))
  have f117 := ((F_claimedOverdueCount_a2.other W105 (Or.inr (slot_ne (Or.inl (W 34 rfl)) (Or.inl (W 28 rfl)) (by decide) (t := .long) (t' := .long) (by decide) (by decide)))).other W110 (Or.inr (slot_ne (Or.inl (W 34 rfl)) (Or.inl (W 30 rfl)) (by decide) (t := .long) (t' := .long) (by decide) (by decide))))
  have f118 := ((F_overdueCheckoutNanos_a2.other W105 (Or.inr (slot_ne (Or.inl (W 36 rfl)) (Or.inl (W 28 rfl)) (by decide) (t := .long) (t' := .long) (by decide) (by decide)))).other W110 (Or.inr (slot_ne (Or.inl (W 36 rfl)) (Or.inl (W 30 rfl)) (by decide) (t := .long) (t' := .long) (by decide) (by decide))))
  have f119 := ((F_checkoutCount_a2.other W105 (Or.inr (slot_ne (Or.inl (W 38 rfl)) (Or.inl (W 28 rfl)) (by decide) (t := .long) (t' := .long) (by decide) (by decide)))).other W110 (Or.inr (slot_ne (Or.inl (W 38 rfl)) (Or.inl (W 30 rfl)) (by decide) (t := .long) (t' := .long) (by decide) (by decide))))
  have f120 := ((F_checkoutNanos_a2.other W105 (Or.inr (slot_ne (Or.inl (W 40 rfl)) (Or.inl (W 28 rfl)) (by decide) (t := .long) (t' := .long) (by decide) (by decide)))).other W110 (Or.inr (slot_ne (Or.inl (W 40 rfl)) (Or.inl (W 30 rfl)) (by decide) (t := .long) (t' := .long) (by decide) (by decide))))
  have f121 := ((F_connectionsOpened_a2.other W105 (Or.inr (slot_ne (Or.inl (W 42 rfl)) (Or.inl (W 28 rfl)) (by decide) (t := .long) (t' := .long) (by decide) (by decide)))).other W110 (Or.inr (slot_ne (Or.inl (W 42 rfl)) (Or.inl (W 30 rfl)) (by decide) (t := .long) (t' := .long) (by decide) (by decide))))
  obtain ⟨fs, hr, hrun, hended, hW, hsame⟩ := X110.leave (v := none) (fun _ => rfl)
  refine ⟨_, _, pre0 _ ?_, hrun, hended, _, _, rfl, ?_, ⟨_, rfl⟩, hW, hsame.mono (Nat.le_of_ble_eq_true rfl) (Nat.le_of_ble_eq_true rfl)⟩
  · show Steps p.tables e below (s₁.setTop (mkF m 0 #[.val (.ref a2), .val (.long q), .second] [])) _
    refine XS.aloadN X0.here hx rfl (hb hby dx_prog_17_method_2_code_0) rfl rfl ?_
    show Steps p.tables e below (s₁.setTop (mkF m 1 #[.val (.ref a2), .val (.long q), .second] [(.ref a2)])) _
    refine XS.dup X0.here hx rfl (hb hby dx_prog_17_method_2_code_1) rfl rfl ?_
    show Steps p.tables e below (s₁.setTop (mkF m 2 #[.val (.ref a2), .val (.long q), .second] [(.ref a2), (.ref a2)])) _
    refine st104 _ ?_
    show Steps p.tables e below (T104.setTop (mkF m 5 #[.val (.ref a2), .val (.long q), .second] [(.long c0), (.ref a2)])) _
    refine XS.lconst X104.here hx rfl (hb hby dx_prog_17_method_2_code_5) ?_
    show Steps p.tables e below (T104.setTop (mkF m 6 #[.val (.ref a2), .val (.long q), .second] [(.long (1 : Int64)), (.long c0), (.ref a2)])) _
    refine XS.ladd X104.here hx rfl (hb hby dx_prog_17_method_2_code_6) rfl ?_
    show Steps p.tables e below (T104.setTop (mkF m 7 #[.val (.ref a2), .val (.long q), .second] [(.long (c0 + (1 : Int64))), (.ref a2)])) _
    refine st105 _ ?_
    show Steps p.tables e below (T105.setTop (mkF m 10 #[.val (.ref a2), .val (.long q), .second] [])) _
    refine XS.aloadN X105.here hx rfl (hb hby dx_prog_17_method_2_code_10) rfl rfl ?_
    show Steps p.tables e below (T105.setTop (mkF m 11 #[.val (.ref a2), .val (.long q), .second] [(.ref a2)])) _
    refine XS.dup X105.here hx rfl (hb hby dx_prog_17_method_2_code_11) rfl rfl ?_
    show Steps p.tables e below (T105.setTop (mkF m 12 #[.val (.ref a2), .val (.long q), .second] [(.ref a2), (.ref a2)])) _
    refine st108 _ ?_
    show Steps p.tables e below (T108.setTop (mkF m 15 #[.val (.ref a2), .val (.long q), .second] [(.long c1), (.ref a2)])) _
    refine XS.lloadN X108.here hx rfl (hb hby dx_prog_17_method_2_code_15) rfl ?_
    show Steps p.tables e below (T108.setTop (mkF m 16 #[.val (.ref a2), .val (.long q), .second] [(.long q), (.long c1), (.ref a2)])) _
    refine XS.ladd X108.here hx rfl (hb hby dx_prog_17_method_2_code_16) rfl ?_
    show Steps p.tables e below (T108.setTop (mkF m 17 #[.val (.ref a2), .val (.long q), .second] [(.long (c1 + q)), (.ref a2)])) _
    refine st110 _ ?_
    show Steps p.tables e below (T110.setTop (mkF m 20 #[.val (.ref a2), .val (.long q), .second] [])) _
    exact X110.returnOut hx Bd.returns (hb hby dx_prog_17_method_2_code_20) hr
  · show Qlent Z ns a2 q c0 c1 c2 c3 c4 c5 c6 c7 c8 c9 h0 n0 _ T110.heap _
    rw [e110]
    exact ⟨rfl, N110, K0_111, f112, f113, Fw110, f114, f115, f116, f117, f118, f119, f120, f121⟩
theorem dx_prog_17_method_3_code_0 : decode prog_17_method_3_code 0 = .ok (.aload_n 0, 1) := by decide +kernel
theorem dx_prog_17_method_3_code_1 : decode prog_17_method_3_code 1 = .ok (.dup, 1) := by decide +kernel
theorem dx_prog_17_method_3_code_2 : decode prog_17_method_3_code 2 = .ok (.getfield 16, 3) := by decide +kernel
theorem dx_prog_17_method_3_code_5 : decode prog_17_method_3_code 5 = .ok (.lconst 1, 1) := by decide +kernel
theorem dx_prog_17_method_3_code_6 : decode prog_17_method_3_code 6 = .ok (.ladd, 1) := by decide +kernel
theorem dx_prog_17_method_3_code_7 : decode prog_17_method_3_code 7 = .ok (.putfield 16, 3) := by decide +kernel
theorem dx_prog_17_method_3_code_10 : decode prog_17_method_3_code 10 = .ok (.aload_n 0, 1) := by decide +kernel
theorem dx_prog_17_method_3_code_11 : decode prog_17_method_3_code 11 = .ok (.dup, 1) := by decide +kernel
theorem dx_prog_17_method_3_code_12 : decode prog_17_method_3_code 12 = .ok (.getfield 19, 3) := by decide +kernel
theorem dx_prog_17_method_3_code_15 : decode prog_17_method_3_code 15 = .ok (.lload_n 1, 1) := by decide +kernel
theorem dx_prog_17_method_3_code_16 : decode prog_17_method_3_code 16 = .ok (.ladd, 1) := by decide +kernel
theorem dx_prog_17_method_3_code_17 : decode prog_17_method_3_code 17 = .ok (.putfield 19, 3) := by decide +kernel
theorem dx_prog_17_method_3_code_20 : decode prog_17_method_3_code 20 = .ok (.return_, 1) := by decide +kernel
def Qwaited (Z : State) (ns : Addr) (a2 : Addr) (q : Int64) (c0 : Int64) (c1 : Int64) (c2 : Int64) (c3 : Int64) (c4 : Int64) (c5 : Int64) (c6 : Int64) (c7 : Int64) (c8 : Int64) (c9 : Int64) (h0 : Heap) (n0 : Nat) (v : Option Value) (h : Heap) (L : List Loc) : Prop := v = none ∧ Fr n0 L ∧ Keep h0 h [a2] ∧ Exa Z h a2 "com/example/cistern/cistern/PoolState$Counters" ∧ Fld Z h a2 "com/example/cistern/cistern/PoolState$Counters" "requestCount" "J" (.long c0) ∧ Fld Z h a2 "com/example/cistern/cistern/PoolState$Counters" "requestNanos" "J" (.long c1) ∧ Fld Z h a2 "com/example/cistern/cistern/PoolState$Counters" "hadToWaitCount" "J" (.long (c2 + (1 : Int64))) ∧ Fld Z h a2 "com/example/cistern/cistern/PoolState$Counters" "waitNanos" "J" (.long (c3 + q)) ∧ Fld Z h a2 "com/example/cistern/cistern/PoolState$Counters" "badConnectionCount" "J" (.long c4) ∧ Fld Z h a2 "com/example/cistern/cistern/PoolState$Counters" "claimedOverdueCount" "J" (.long c5) ∧ Fld Z h a2 "com/example/cistern/cistern/PoolState$Counters" "overdueCheckoutNanos" "J" (.long c6) ∧ Fld Z h a2 "com/example/cistern/cistern/PoolState$Counters" "checkoutCount" "J" (.long c7) ∧ Fld Z h a2 "com/example/cistern/cistern/PoolState$Counters" "checkoutNanos" "J" (.long c8) ∧ Fld Z h a2 "com/example/cistern/cistern/PoolState$Counters" "connectionsOpened" "J" (.long c9)
theorem ef_prog_17_method_3_code_RJ (m : MethodId) (x0 : Addr) (x1 : Int64) : entryFrame m #[(.ref x0), (.long x1)] 3 = mkF m 0 #[.val (.ref x0), .val (.long x1), .second] [] := by first | (simp [entryFrame, mkF, argsToLocals, Value.category]; done) | rfl
abbrev y15 : MethodName := ⟨"com/example/cistern/cistern/PoolState$Counters", "waited", "(J)V"⟩
set_option maxRecDepth 65536 in
set_option maxHeartbeats 40000000 in
theorem rmwaited (l : Launch) (Z : State) (a0 : Array Value) (ns : Addr) (hG : Glob Z a0 ns) (ws : List Jvm.Cond) (a2 : Addr) (q : Int64) (c0 : Int64) (c1 : Int64) (c2 : Int64) (c3 : Int64) (c4 : Int64) (c5 : Int64) (c6 : Int64) (c7 : Int64) (c8 : Int64) (c9 : Int64) (h0 : Heap) (n0 : Nat) (Z0 : n0 ≤ h0.size) (X00 : Old Z n0 h0) (E_a2 : Exa Z h0 a2 "com/example/cistern/cistern/PoolState$Counters") (g_a2 : n0 ≤ a2) (F_requestCount_a2 : Fld Z h0 a2 "com/example/cistern/cistern/PoolState$Counters" "requestCount" "J" (.long c0)) (F_requestNanos_a2 : Fld Z h0 a2 "com/example/cistern/cistern/PoolState$Counters" "requestNanos" "J" (.long c1)) (F_hadToWaitCount_a2 : Fld Z h0 a2 "com/example/cistern/cistern/PoolState$Counters" "hadToWaitCount" "J" (.long c2)) (F_waitNanos_a2 : Fld Z h0 a2 "com/example/cistern/cistern/PoolState$Counters" "waitNanos" "J" (.long c3)) (F_badConnectionCount_a2 : Fld Z h0 a2 "com/example/cistern/cistern/PoolState$Counters" "badConnectionCount" "J" (.long c4)) (F_claimedOverdueCount_a2 : Fld Z h0 a2 "com/example/cistern/cistern/PoolState$Counters" "claimedOverdueCount" "J" (.long c5)) (F_overdueCheckoutNanos_a2 : Fld Z h0 a2 "com/example/cistern/cistern/PoolState$Counters" "overdueCheckoutNanos" "J" (.long c6)) (F_checkoutCount_a2 : Fld Z h0 a2 "com/example/cistern/cistern/PoolState$Counters" "checkoutCount" "J" (.long c7)) (F_checkoutNanos_a2 : Fld Z h0 a2 "com/example/cistern/cistern/PoolState$Counters" "checkoutNanos" "J" (.long c8)) (F_connectionsOpened_a2 : Fld Z h0 a2 "com/example/cistern/cistern/PoolState$Counters" "connectionsOpened" "J" (.long c9)) :
    MetFree l y15 (head1 (Jvm.Cond.code y15 prog_17_method_3_code 3 none :: ws) ({ frames := 0, cells := 0, slots := 0, locals := 0 } : Room)) (fun a U => a = #[(.ref a2), (.long q)] ∧ Z.Warmed39 U.vm ∧ U.heap = h0) (fun _ _ _ _ _ => True) (fun _ U o U' => ∃ v L, o = .returned v ∧ Qwaited Z ns a2 q c0 c1 c2 c3 c4 c5 c6 c7 c8 c9 h0 n0 v U'.heap L ∧ FrameEnd U o U' L ({ frames := 0, cells := 0, slots := 0, locals := 0 } : Room).cells ({ frames := 0, cells := 0, slots := 0, locals := 0 } : Room).slots) := by
  obtain ⟨hw, O_ns, O_ens, O_scale, O_ratio⟩ := id hG
  have W : ∀ (i : Nat) {d : Jvm.Cond}, tables_1[i]? = some d → d.before a0 Z = true := fun i d h => hw d (List.mem_of_getElem? h)
  refine MetFree.of_bodySF (plainFor_of_name pn_com_example_cistern_cistern_PoolState_Counters) hisR ?_
  intro p e s m args below meth c s₁ Bd hml0 hP hK
  obtain ⟨rfl, hZ, hh⟩ := hP
  have hx := Bd.exec
  have hby := Bd.bytes
  have hml : c.maxLocals = 3 := hml0
  have hown : s.vm.findClass "com/example/cistern/cistern/PoolState$Counters" = some m.cls := findClass_of_methodNamed Bd.named
  have hnm := (name_of_methodNamed Bd.named Bd.method).1
  have X0 : Stand p l e ({ frames := 0, cells := 0, slots := 0, locals := 0 } : Room) s m #[(.ref a2), (.long q)] below meth c s₁ [] 0 0 := Stand.of_body Bd
  have e0 : s₁.heap = h0 := by rw [← hh, Bd.state]; rfl
  have N0 := Fr.nil n0
  have pre0 : ∀ t, Steps p.tables e below (s₁.setTop (mkF m 0 #[.val (.ref a2), .val (.long q), .second] [])) t → Steps p.tables e below (s₁.setTop (entryFrame m #[(.ref a2), (.long q)] 3)) t := fun t kk_ => castTop (ef_prog_17_method_3_code_RJ m a2 q) kk_
  obtain ⟨T122, X122, e122, st122⟩ := getF X0 hx hZ hown (host := "") (Or.inl (W 18 rfl)) Via.refl e0 F_hadToWaitCount_a2 (g := (mkF m 2 #[.val (.ref a2), .val (.long q), .second] [(.ref a2), (.ref a2)])) rfl rfl (hb hby dx_prog_17_method_3_code_2)
  obtain ⟨T123, h123, X123, e123, W123, st123⟩ := putF X122 hx hZ hown (host := "") (Or.inl (W 18 rfl)) Via.refl e122 F_hadToWaitCount_a2 E_a2 (Or.inl (W 19 rfl)) (W 1 rfl) (ty := .long) (by decide) rfl rfl (g := (mkF m 7 #[.val (.ref a2), .val (.long q), .second] [(.long (c2 + (1 : Int64))), (.ref a2)])) rfl rfl (hb hby dx_prog_17_method_3_code_7)
  have Fw123 := F_hadToWaitCount_a2.same W123
  have Z124 : n0 ≤ h123.size := Nat.le_trans Z0 (Keep.of_wr W123).1
  have K0_124 : Keep h0 h123 [a2] := (Keep.refl h0 [a2]).wr W123 (Or.inl (List.mem_of_getElem? (i := 0) rfl))
  have O124 : Old Z n0 h123 := X00.wr W123 g_a2
  have N123 := Fr.snoc X123 N0 g_a2
  have f125 := (F_waitNanos_a2.other W123 (Or.inr (slot_ne (Or.inl (W 21 rfl)) (Or.inl (W 19 rfl)) (by decide) (t := .long) (t' := .long) (by decide) (by decide))))
  obtain ⟨T126, X126, e126, st126⟩ := getF X123 hx hZ hown (host := "") (Or.inl (W 20 rfl)) Via.refl e123 f125 (g := (mkF m 12 #[.val (.ref a2), .val (.long q), .second] [(.ref a2), (.ref a2)])) rfl rfl (hb hby dx_prog_17_method_3_code_12)
  have f127 := (E_a2.wr W123)
  obtain ⟨T128, h128, X128, e128, W128, st128⟩ := putF X126 hx hZ hown (host := "") (Or.inl (W 20 rfl)) Via.refl e126 f125 f127 (Or.inl (W 21 rfl)) (W 1 rfl) (ty := .long) (by decide) rfl rfl (g := (mkF m 17 #[.val (.ref a2), .val (.long q), .second] [(.long (c3 + q)), (.ref a2)])) rfl rfl (hb hby dx_prog_17_method_3_code_17)
  have Fw128 := f125.same W128
  have Z129 : n0 ≤ h128.size := Nat.le_trans Z124 (Keep.of_wr W128).1
  have K0_129 : Keep h0 h128 [a2] := K0_124.wr W128 (Or.inl (List.mem_of_getElem? (i := 0) rfl))
  have O129 : Old Z n0 h128 := O124.wr W128 g_a2
  have N128 := Fr.snoc X128 N123 g_a2
  have f130 := (f127.wr W128)
  have f131 := ((F_requestCount_a2.other W123 (Or.inr (slot_ne (Or.inl (W 28 rfl)) (Or.inl (W 19 rfl)) (by decide) (t := .long) (t' := .long) (by decide) (by decide)))).other W128 (Or.inr (slot_ne (Or.inl (W 28 rfl)) (Or.inl (W 21 rfl)) (by decide) (t := .long) (t' := .long) (by decide) (by decide))))
  have f132 := ((F_requestNanos_a2.other W123 (Or.inr (slot_ne (Or.inl (W 30 rfl)) (Or.inl (W 19 rfl)) (by decide) (t := .long) (t' := .long) (by decide) (by decide)))).other W128 (Or.inr (slot_ne (Or.inl (W 30 rfl)) (Or.inl (W 21 rfl)) (by decide) (t := .long) (t' := .long) (by decide) (by decide))))
  have f133 := (Fw123.other W128 (Or.inr (slot_ne (Or.inl (W 19 rfl)) (Or.inl (W 21 rfl)) (by decide) (t := .long) (t' := .long) (by decide) (by decide))))
  have f134 := ((F_badConnectionCount_a2.other W123 (Or.inr (slot_ne (Or.inl (W 32 rfl)) (Or.inl (W 19 rfl)) (by decide) (t := .long) (t' := .long) (by decide) (by decide)))).other W128 (Or.inr (slot_ne (Or.inl (W 32 rfl)) (Or.inl (W 21 rfl)) (by decide) (t := .long) (t' := .long) (by decide) (by decide))))
  have f135 := ((F_claimedOverdueCount_a2.other W123 (Or.inr (slot_ne (Or.inl (W 34 rfl)) (Or.inl (W 19 rfl)) (by decide) (t := .long) (t' := .long) (by decide) (by decide)))).other W128 (Or.inr (slot_ne (Or.inl (W 34 rfl)) (Or.inl (W 21 rfl)) (by decide) (t := .long) (t' := .long) (by decide) (by decide))))
  have f136 := ((F_overdueCheckoutNanos_a2.other W123 (Or.inr (slot_ne (Or.inl (W 36 rfl)) (Or.inl (W 19 rfl)) (by decide) (t := .long) (t' := .long) (by decide) (by decide)))).other W128 (Or.inr (slot_ne (Or.inl (W 36 rfl)) (Or.inl (W 21 rfl)) (by decide) (t := .long) (t' := .long) (by decide) (by decide))))
  have f137 := ((F_checkoutCount_a2.other W123 (Or.inr (slot_ne (Or.inl (W 38 rfl)) (Or.inl (W 19 rfl)) (by decide) (t := .long) (t' := .long) (by decide) (by decide)))).other W128 (Or.inr (slot_ne (Or.inl (W 38 rfl)) (Or.inl (W 21 rfl)) (by decide) (t := .long) (t' := .long) (by decide) (by decide))))
  have f138 := ((F_checkoutNanos_a2.other W123 (Or.inr (slot_ne (Or.inl (W 40 rfl)) (Or.inl (W 19 rfl)) (by decide) (t := .long) (t' := .long) (by decide) (by decide)))).other W128 (Or.inr (slot_ne (Or.inl (W 40 rfl)) (Or.inl (W 21 rfl)) (by decide) (t := .long) (t' := .long) (by decide) (by decide))))
  have f139 := ((F_connectionsOpened_a2.other W123 (Or.inr (slot_ne (Or.inl (W 42 rfl)) (Or.inl (W 19 rfl)) (by decide) (t := .long) (t' := .long) (by decide) (by decide)))).other W128 (Or.inr (slot_ne (Or.inl (W 42 rfl)) (Or.inl (W 21 rfl)) (by decide) (t := .long) (t' := .long) (by decide) (by decide))))
  obtain ⟨fs, hr, hrun, hended, hW, hsame⟩ := X128.leave (v := none) (fun _ => rfl)
  refine ⟨_, _, pre0 _ ?_, hrun, hended, _, _, rfl, ?_, ⟨_, rfl⟩, hW, hsame.mono (Nat.le_of_ble_eq_true rfl) (Nat.le_of_ble_eq_true rfl)⟩
  · show Steps p.tables e below (s₁.setTop (mkF m 0 #[.val (.ref a2), .val (.long q), .second] [])) _
    refine XS.aloadN X0.here hx rfl (hb hby dx_prog_17_method_3_code_0) rfl rfl ?_
    show Steps p.tables e below (s₁.setTop (mkF m 1 #[.val (.ref a2), .val (.long q), .second] [(.ref a2)])) _
    refine XS.dup X0.here hx rfl (hb hby dx_prog_17_method_3_code_1) rfl rfl ?_
    show Steps p.tables e below (s₁.setTop (mkF m 2 #[.val (.ref a2), .val (.long q), .second] [(.ref a2), (.ref a2)])) _
    refine st122 _ ?_
    show Steps p.tables e below (T122.setTop (mkF m 5 #[.val (.ref a2), .val (.long q), .second] [(.long c2), (.ref a2)])) _
    refine XS.lconst X122.here hx rfl (hb hby dx_prog_17_method_3_code_5) ?_
    show Steps p.tables e below (T122.setTop (mkF m 6 #[.val (.ref a2), .val (.long q), .second] [(.long (1 : Int64)), (.long c2), (.ref a2)])) _
    refine XS.ladd X122.here hx rfl (hb hby dx_prog_17_method_3_code_6) rfl ?_
    show Steps p.tables e below (T122.setTop (mkF m 7 #[.val (.ref a2), .val (.long q), .second] [(.long (c2 + (1 : Int64))), (.ref a2)])) _
    refine st123 _ ?_
    show Steps p.tables e below (T123.setTop (mkF m 10 #[.val (.ref a2), .val (.long q), .second] [])) _
    refine XS.aloadN X123.here hx rfl (hb hby dx_prog_17_method_3_code_10) rfl rfl ?_
    show Steps p.tables e below (T123.setTop (mkF m 11 #[.val (.ref a2), .val (.long q), .second] [(.ref a2)])) _
    refine XS.dup X123.here hx rfl (hb hby dx_prog_17_method_3_code_11) rfl rfl ?_
    show Steps p.tables e below (T123.setTop (mkF m 12 #[.val (.ref a2), .val (.long q), .second] [(.ref a2), (.ref a2)])) _
    refine st126 _ ?_
    show Steps p.tables e below (T126.setTop (mkF m 15 #[.val (.ref a2), .val (.long q), .second] [(.long c3), (.ref a2)])) _
    refine XS.lloadN X126.here hx rfl (hb hby dx_prog_17_method_3_code_15) rfl ?_
    show Steps p.tables e below (T126.setTop (mkF m 16 #[.val (.ref a2), .val (.long q), .second] [(.long q), (.long c3), (.ref a2)])) _
    refine XS.ladd X126.here hx rfl (hb hby dx_prog_17_method_3_code_16) rfl ?_
    show Steps p.tables e below (T126.setTop (mkF m 17 #[.val (.ref a2), .val (.long q), .second] [(.long (c3 + q)), (.ref a2)])) _
    refine st128 _ ?_
    show Steps p.tables e below (T128.setTop (mkF m 20 #[.val (.ref a2), .val (.long q), .second] [])) _
    exact X128.returnOut hx Bd.returns (hb hby dx_prog_17_method_3_code_20) hr
  · show Qwaited Z ns a2 q c0 c1 c2 c3 c4 c5 c6 c7 c8 c9 h0 n0 _ T128.heap _
    rw [e128]
    exact ⟨rfl, N128, K0_129, f130, f131, f132, f133, Fw128, f134, f135, f136, f137, f138, f139⟩
theorem dx_prog_17_method_4_code_0 : decode prog_17_method_4_code 0 = .ok (.aload_n 0, 1) := by decide +kernel
theorem dx_prog_17_method_4_code_1 : decode prog_17_method_4_code 1 = .ok (.dup, 1) := by decide +kernel
theorem dx_prog_17_method_4_code_2 : decode prog_17_method_4_code 2 = .ok (.getfield 22, 3) := by decide +kernel
theorem dx_prog_17_method_4_code_5 : decode prog_17_method_4_code 5 = .ok (.lconst 1, 1) := by decide +kernel
theorem dx_prog_17_method_4_code_6 : decode prog_17_method_4_code 6 = .ok (.ladd, 1) := by decide +kernel
theorem dx_prog_17_method_4_code_7 : decode prog_17_method_4_code 7 = .ok (.putfield 22, 3) := by decide +kernel
theorem dx_prog_17_method_4_code_10 : decode prog_17_method_4_code 10 = .ok (.return_, 1) := by decide +kernel
def QbadConnection (Z : State) (ns : Addr) (a2 : Addr) (c0 : Int64) (c1 : Int64) (c2 : Int64) (c3 : Int64) (c4 : Int64) (c5 : Int64) (c6 : Int64) (c7 : Int64) (c8 : Int64) (c9 : Int64) (h0 : Heap) (n0 : Nat) (v : Option Value) (h : Heap) (L : List Loc) : Prop := v = none ∧ Fr n0 L ∧ Keep h0 h [a2] ∧ Exa Z h a2 "com/example/cistern/cistern/PoolState$Counters" ∧ Fld Z h a2 "com/example/cistern/cistern/PoolState$Counters" "requestCount" "J" (.long c0) ∧ Fld Z h a2 "com/example/cistern/cistern/PoolState$Counters" "requestNanos" "J" (.long c1) ∧ Fld Z h a2 "com/example/cistern/cistern/PoolState$Counters" "hadToWaitCount" "J" (.long c2) ∧ Fld Z h a2 "com/example/cistern/cistern/PoolState$Counters" "waitNanos" "J" (.long c3) ∧ Fld Z h a2 "com/example/cistern/cistern/PoolState$Counters" "badConnectionCount" "J" (.long (c4 + (1 : Int64))) ∧ Fld Z h a2 "com/example/cistern/cistern/PoolState$Counters" "claimedOverdueCount" "J" (.long c5) ∧ Fld Z h a2 "com/example/cistern/cistern/PoolState$Counters" "overdueCheckoutNanos" "J" (.long c6) ∧ Fld Z h a2 "com/example/cistern/cistern/PoolState$Counters" "checkoutCount" "J" (.long c7) ∧ Fld Z h a2 "com/example/cistern/cistern/PoolState$Counters" "checkoutNanos" "J" (.long c8) ∧ Fld Z h a2 "com/example/cistern/cistern/PoolState$Counters" "connectionsOpened" "J" (.long c9)
theorem ef_prog_17_method_4_code_R (m : MethodId) (x0 : Addr) : entryFrame m #[(.ref x0)] 1 = mkF m 0 #[.val (.ref x0)] [] := by first | (simp [entryFrame, mkF, argsToLocals, Value.category]; done) | rfl
abbrev y16 : MethodName := ⟨"com/example/cistern/cistern/PoolState$Counters", "badConnection", "()V"⟩
set_option maxRecDepth 65536 in
set_option maxHeartbeats 40000000 in
theorem rmbadConnection (l : Launch) (Z : State) (a0 : Array Value) (ns : Addr) (hG : Glob Z a0 ns) (ws : List Jvm.Cond) (a2 : Addr) (c0 : Int64) (c1 : Int64) (c2 : Int64) (c3 : Int64) (c4 : Int64) (c5 : Int64) (c6 : Int64) (c7 : Int64) (c8 : Int64) (c9 : Int64) (h0 : Heap) (n0 : Nat) (Z0 : n0 ≤ h0.size) (X00 : Old Z n0 h0) (E_a2 : Exa Z h0 a2 "com/example/cistern/cistern/PoolState$Counters") (g_a2 : n0 ≤ a2) (F_requestCount_a2 : Fld Z h0 a2 "com/example/cistern/cistern/PoolState$Counters" "requestCount" "J" (.long c0)) (F_requestNanos_a2 : Fld Z h0 a2 "com/example/cistern/cistern/PoolState$Counters" "requestNanos" "J" (.long c1)) (F_hadToWaitCount_a2 : Fld Z h0 a2 "com/example/cistern/cistern/PoolState$Counters" "hadToWaitCount" "J" (.long c2)) (F_waitNanos_a2 : Fld Z h0 a2 "com/example/cistern/cistern/PoolState$Counters" "waitNanos" "J" (.long c3)) (F_badConnectionCount_a2 : Fld Z h0 a2 "com/example/cistern/cistern/PoolState$Counters" "badConnectionCount" "J" (.long c4)) (F_claimedOverdueCount_a2 : Fld Z h0 a2 "com/example/cistern/cistern/PoolState$Counters" "claimedOverdueCount" "J" (.long c5)) (F_overdueCheckoutNanos_a2 : Fld Z h0 a2 "com/example/cistern/cistern/PoolState$Counters" "overdueCheckoutNanos" "J" (.long c6)) (F_checkoutCount_a2 : Fld Z h0 a2 "com/example/cistern/cistern/PoolState$Counters" "checkoutCount" "J" (.long c7)) (F_checkoutNanos_a2 : Fld Z h0 a2 "com/example/cistern/cistern/PoolState$Counters" "checkoutNanos" "J" (.long c8)) (F_connectionsOpened_a2 : Fld Z h0 a2 "com/example/cistern/cistern/PoolState$Counters" "connectionsOpened" "J" (.long c9)) :
    MetFree l y16 (head1 (Jvm.Cond.code y16 prog_17_method_4_code 1 none :: ws) ({ frames := 0, cells := 0, slots := 0, locals := 0 } : Room)) (fun a U => a = #[(.ref a2)] ∧ Z.Warmed39 U.vm ∧ U.heap = h0) (fun _ _ _ _ _ => True) (fun _ U o U' => ∃ v L, o = .returned v ∧ QbadConnection Z ns a2 c0 c1 c2 c3 c4 c5 c6 c7 c8 c9 h0 n0 v U'.heap L ∧ FrameEnd U o U' L ({ frames := 0, cells := 0, slots := 0, locals := 0 } : Room).cells ({ frames := 0, cells := 0, slots := 0, locals := 0 } : Room).slots) := by
  obtain ⟨hw, O_ns, O_ens, O_scale, O_ratio⟩ := id hG
  have W : ∀ (i : Nat) {d : Jvm.Cond}, tables_1[i]? = some d → d.before a0 Z = true := fun i d h => hw d (List.mem_of_getElem? h)
  refine MetFree.of_bodySF (plainFor_of_name pn_com_example_cistern_cistern_PoolState_Counters) hisR ?_
  intro p e s m args below meth c s₁ Bd hml0 hP hK
  obtain ⟨rfl, hZ, hh⟩ := hP
  have hx := Bd.exec
  have hby := Bd.bytes
  have hml : c.maxLocals = 1 := hml0
  have hown : s.vm.findClass "com/example/cistern/cistern/PoolState$Counters" = some m.cls := findClass_of_methodNamed Bd.named
  have hnm := (name_of_methodNamed Bd.named Bd.method).1
  have X0 : Stand p l e ({ frames := 0, cells := 0, slots := 0, locals := 0 } : Room) s m #[(.ref a2)] below meth c s₁ [] 0 0 := Stand.of_body Bd
  have e0 : s₁.heap = h0 := by rw [← hh, Bd.state]; rfl
  have N0 := Fr.nil n0
  have pre0 : ∀ t, Steps p.tables e below (s₁.setTop (mkF m 0 #[.val (.ref a2)] [])) t → Steps p.tables e below (s₁.setTop (entryFrame m #[(.ref a2)] 1)) t := fun t kk_ => castTop (ef_prog_17_method_4_code_R m a2) kk_
  obtain ⟨T140, X140, e140, st140⟩ := getF X0 hx hZ hown (host := "") (Or.inl (W 31 rfl)) Via.refl e0 F_badConnectionCount_a2 (g := (mkF m 2 #[.val (.ref a2)] [(.ref a2), (.ref a2)])) rfl rfl (hb hby dx_prog_17_method_4_code_2)
  obtain ⟨T141, h141, X141, e141, W141, st141⟩ := putF X140 hx hZ hown (host := "") (Or.inl (W 31 rfl)) Via.refl e140 F_badConnectionCount_a2 E_a2 (Or.inl (W 32 rfl)) (W 1 rfl) (ty := .long) (by decide) rfl rfl (g := (mkF m 7 #[.val (.ref a2)] [(.long (c4 + (1 : Int64))), (.ref a2)])) rfl rfl (hb hby dx_prog_17_method_4_code_7)
  have Fw141 := F_badConnectionCount_a2.same W141
  have Z142 : n0 ≤ h141.size := Nat.le_trans Z0 (Keep.of_wr W141).1
  have K0_142 : Keep h0 h141 [a2] := (Keep.refl h0 [a2]).wr W141 (Or.inl (List.mem_of_getElem? (i := 0) rfl))
  have O142 : Old Z n0 h141 := X00.wr W141 g_a2
  have N141 := Fr.snoc X141 N0 g_a2
  have f143 := (E_a2.wr W141)
  have f144 := (F_requestCount_a2.other W141 (Or.inr (slot_ne (Or.inl (W 28 rfl)) (Or.inl (W 32 rfl)) (by decide) (t := .long) (t' := .long) (by decide) (by decide))))
  have f145 := (F_requestNanos_a2.other W141 (Or.inr (slot_ne (Or.inl (W 30 rfl)) (Or.inl (W 32 rfl)) (by decide) (t := .long) (t' := .long) (by decide) (by decide))))
  have f146 := (F_hadToWaitCount_a2.other W141 (Or.inr (slot_ne (Or.inl (W 19 rfl)) (Or.inl (W 32 rfl)) (by decide) (t := .long) (t' := .long) (by decide) (by decide))))
  have f147 := (F_waitNanos_a2.other W141 (Or.inr (slot_ne (Or.inl (W 21 rfl)) (Or.inl (W 32 rfl)) (by decide) (t := .long) (t' := .long) (by decide) (by decide))))
  have f148 := (F_claimedOverdueCount_a2.other W141 (Or.inr (slot_ne (Or.inl (W 34 rfl)) (Or.inl (W 32 rfl)) (by decide) (t := .long) (t' := .long) (by decide) (by decide))))
  have f149 := (F_overdueCheckoutNanos_a2.other W141 (Or.inr (slot_ne (Or.inl (W 36 rfl)) (Or.inl (W 32 rfl)) (by decide) (t := .long) (t' := .long) (by decide) (by decide))))
  have f150 := (F_checkoutCount_a2.other W141 (Or.inr (slot_ne (Or.inl (W 38 rfl)) (Or.inl (W 32 rfl)) (by decide) (t := .long) (t' := .long) (by decide) (by decide))))
  have f151 := (F_checkoutNanos_a2.other W141 (Or.inr (slot_ne (Or.inl (W 40 rfl)) (Or.inl (W 32 rfl)) (by decide) (t := .long) (t' := .long) (by decide) (by decide))))
  have f152 := (F_connectionsOpened_a2.other W141 (Or.inr (slot_ne (Or.inl (W 42 rfl)) (Or.inl (W 32 rfl)) (by decide) (t := .long) (t' := .long) (by decide) (by decide))))
  obtain ⟨fs, hr, hrun, hended, hW, hsame⟩ := X141.leave (v := none) (fun _ => rfl)
  refine ⟨_, _, pre0 _ ?_, hrun, hended, _, _, rfl, ?_, ⟨_, rfl⟩, hW, hsame.mono (Nat.le_of_ble_eq_true rfl) (Nat.le_of_ble_eq_true rfl)⟩
  · show Steps p.tables e below (s₁.setTop (mkF m 0 #[.val (.ref a2)] [])) _
    refine XS.aloadN X0.here hx rfl (hb hby dx_prog_17_method_4_code_0) rfl rfl ?_
    show Steps p.tables e below (s₁.setTop (mkF m 1 #[.val (.ref a2)] [(.ref a2)])) _
    refine XS.dup X0.here hx rfl (hb hby dx_prog_17_method_4_code_1) rfl rfl ?_
    show Steps p.tables e below (s₁.setTop (mkF m 2 #[.val (.ref a2)] [(.ref a2), (.ref a2)])) _
    refine st140 _ ?_
    show Steps p.tables e below (T140.setTop (mkF m 5 #[.val (.ref a2)] [(.long c4), (.ref a2)])) _
    refine XS.lconst X140.here hx rfl (hb hby dx_prog_17_method_4_code_5) ?_
    show Steps p.tables e below (T140.setTop (mkF m 6 #[.val (.ref a2)] [(.long (1 : Int64)), (.long c4), (.ref a2)])) _
    refine XS.ladd X140.here hx rfl (hb hby dx_prog_17_method_4_code_6) rfl ?_
    show Steps p.tables e below (T140.setTop (mkF m 7 #[.val (.ref a2)] [(.long (c4 + (1 : Int64))), (.ref a2)])) _
    refine st141 _ ?_
    show Steps p.tables e below (T141.setTop (mkF m 10 #[.val (.ref a2)] [])) _
    exact X141.returnOut hx Bd.returns (hb hby dx_prog_17_method_4_code_10) hr
  · show QbadConnection Z ns a2 c0 c1 c2 c3 c4 c5 c6 c7 c8 c9 h0 n0 _ T141.heap _
    rw [e141]
    exact ⟨rfl, N141, K0_142, f143, f144, f145, f146, f147, Fw141, f148, f149, f150, f151, f152⟩
theorem dx_prog_17_method_5_code_0 : decode prog_17_method_5_code 0 = .ok (.aload_n 0, 1) := by decide +kernel
theorem dx_prog_17_method_5_code_1 : decode prog_17_method_5_code 1 = .ok (.dup, 1) := by decide +kernel
theorem dx_prog_17_method_5_code_2 : decode prog_17_method_5_code 2 = .ok (.getfield 25, 3) := by decide +kernel
theorem dx_prog_17_method_5_code_5 : decode prog_17_method_5_code 5 = .ok (.lconst 1, 1) := by decide +kernel
theorem dx_prog_17_method_5_code_6 : decode prog_17_method_5_code 6 = .ok (.ladd, 1) := by decide +kernel
theorem dx_prog_17_method_5_code_7 : decode prog_17_method_5_code 7 = .ok (.putfield 25, 3) := by decide +kernel
theorem dx_prog_17_method_5_code_10 : decode prog_17_method_5_code 10 = .ok (.return_, 1) := by decide +kernel
def Qopened (Z : State) (ns : Addr) (a2 : Addr) (c0 : Int64) (c1 : Int64) (c2 : Int64) (c3 : Int64) (c4 : Int64) (c5 : Int64) (c6 : Int64) (c7 : Int64) (c8 : Int64) (c9 : Int64) (h0 : Heap) (n0 : Nat) (v : Option Value) (h : Heap) (L : List Loc) : Prop := v = none ∧ Fr n0 L ∧ Keep h0 h [a2] ∧ Exa Z h a2 "com/example/cistern/cistern/PoolState$Counters" ∧ Fld Z h a2 "com/example/cistern/cistern/PoolState$Counters" "requestCount" "J" (.long c0) ∧ Fld Z h a2 "com/example/cistern/cistern/PoolState$Counters" "requestNanos" "J" (.long c1) ∧ Fld Z h a2 "com/example/cistern/cistern/PoolState$Counters" "hadToWaitCount" "J" (.long c2) ∧ Fld Z h a2 "com/example/cistern/cistern/PoolState$Counters" "waitNanos" "J" (.long c3) ∧ Fld Z h a2 "com/example/cistern/cistern/PoolState$Counters" "badConnectionCount" "J" (.long c4) ∧ Fld Z h a2 "com/example/cistern/cistern/PoolState$Counters" "claimedOverdueCount" "J" (.long c5) ∧ Fld Z h a2 "com/example/cistern/cistern/PoolState$Counters" "overdueCheckoutNanos" "J" (.long c6) ∧ Fld Z h a2 "com/example/cistern/cistern/PoolState$Counters" "checkoutCount" "J" (.long c7) ∧ Fld Z h a2 "com/example/cistern/cistern/PoolState$Counters" "checkoutNanos" "J" (.long c8) ∧ Fld Z h a2 "com/example/cistern/cistern/PoolState$Counters" "connectionsOpened" "J" (.long (c9 + (1 : Int64)))
theorem ef_prog_17_method_5_code_R (m : MethodId) (x0 : Addr) : entryFrame m #[(.ref x0)] 1 = mkF m 0 #[.val (.ref x0)] [] := by first | (simp [entryFrame, mkF, argsToLocals, Value.category]; done) | rfl
abbrev y17 : MethodName := ⟨"com/example/cistern/cistern/PoolState$Counters", "opened", "()V"⟩
set_option maxRecDepth 65536 in
set_option maxHeartbeats 40000000 in
theorem rmopened (l : Launch) (Z : State) (a0 : Array Value) (ns : Addr) (hG : Glob Z a0 ns) (ws : List Jvm.Cond) (a2 : Addr) (c0 : Int64) (c1 : Int64) (c2 : Int64) (c3 : Int64) (c4 : Int64) (c5 : Int64) (c6 : Int64) (c7 : Int64) (c8 : Int64) (c9 : Int64) (h0 : Heap) (n0 : Nat) (Z0 : n0 ≤ h0.size) (X00 : Old Z n0 h0) (E_a2 : Exa Z h0 a2 "com/example/cistern/cistern/PoolState$Counters") (g_a2 : n0 ≤ a2) (F_requestCount_a2 : Fld Z h0 a2 "com/example/cistern/cistern/PoolState$Counters" "requestCount" "J" (.long c0)) (F_requestNanos_a2 : Fld Z h0 a2 "com/example/cistern/cistern/PoolState$Counters" "requestNanos" "J" (.long c1)) (F_hadToWaitCount_a2 : Fld Z h0 a2 "com/example/cistern/cistern/PoolState$Counters" "hadToWaitCount" "J" (.long c2)) (F_waitNanos_a2 : Fld Z h0 a2 "com/example/cistern/cistern/PoolState$Counters" "waitNanos" "J" (.long c3)) (F_badConnectionCount_a2 : Fld Z h0 a2 "com/example/cistern/cistern/PoolState$Counters" "badConnectionCount" "J" (.long c4)) (F_claimedOverdueCount_a2 : Fld Z h0 a2 "com/example/cistern/cistern/PoolState$Counters" "claimedOverdueCount" "J" (.long c5)) (F_overdueCheckoutNanos_a2 : Fld Z h0 a2 "com/example/cistern/cistern/PoolState$Counters" "overdueCheckoutNanos" "J" (.long c6)) (F_checkoutCount_a2 : Fld Z h0 a2 "com/example/cistern/cistern/PoolState$Counters" "checkoutCount" "J" (.long c7)) (F_checkoutNanos_a2 : Fld Z h0 a2 "com/example/cistern/cistern/PoolState$Counters" "checkoutNanos" "J" (.long c8)) (F_connectionsOpened_a2 : Fld Z h0 a2 "com/example/cistern/cistern/PoolState$Counters" "connectionsOpened" "J" (.long c9)) :
    MetFree l y17 (head1 (Jvm.Cond.code y17 prog_17_method_5_code 1 none :: ws) ({ frames := 0, cells := 0, slots := 0, locals := 0 } : Room)) (fun a U => a = #[(.ref a2)] ∧ Z.Warmed39 U.vm ∧ U.heap = h0) (fun _ _ _ _ _ => True) (fun _ U o U' => ∃ v L, o = .returned v ∧ Qopened Z ns a2 c0 c1 c2 c3 c4 c5 c6 c7 c8 c9 h0 n0 v U'.heap L ∧ FrameEnd U o U' L ({ frames := 0, cells := 0, slots := 0, locals := 0 } : Room).cells ({ frames := 0, cells := 0, slots := 0, locals := 0 } : Room).slots) := by
  obtain ⟨hw, O_ns, O_ens, O_scale, O_ratio⟩ := id hG
  have W : ∀ (i : Nat) {d : Jvm.Cond}, tables_1[i]? = some d → d.before a0 Z = true := fun i d h => hw d (List.mem_of_getElem? h)
  refine MetFree.of_bodySF (plainFor_of_name pn_com_example_cistern_cistern_PoolState_Counters) hisR ?_
  intro p e s m args below meth c s₁ Bd hml0 hP hK
  obtain ⟨rfl, hZ, hh⟩ := hP
  have hx := Bd.exec
  have hby := Bd.bytes
  have hml : c.maxLocals = 1 := hml0
  have hown : s.vm.findClass "com/example/cistern/cistern/PoolState$Counters" = some m.cls := findClass_of_methodNamed Bd.named
  have hnm := (name_of_methodNamed Bd.named Bd.method).1
  have X0 : Stand p l e ({ frames := 0, cells := 0, slots := 0, locals := 0 } : Room) s m #[(.ref a2)] below meth c s₁ [] 0 0 := Stand.of_body Bd
  have e0 : s₁.heap = h0 := by rw [← hh, Bd.state]; rfl
  have N0 := Fr.nil n0
  have pre0 : ∀ t, Steps p.tables e below (s₁.setTop (mkF m 0 #[.val (.ref a2)] [])) t → Steps p.tables e below (s₁.setTop (entryFrame m #[(.ref a2)] 1)) t := fun t kk_ => castTop (ef_prog_17_method_5_code_R m a2) kk_
  obtain ⟨T153, X153, e153, st153⟩ := getF X0 hx hZ hown (host := "") (Or.inl (W 41 rfl)) Via.refl e0 F_connectionsOpened_a2 (g := (mkF m 2 #[.val (.ref a2)] [(.ref a2), (.ref a2)])) rfl rfl (hb hby dx_prog_17_method_5_code_2)
  obtain ⟨T154, h154, X154, e154, W154, st154⟩ := putF X153 hx hZ hown (host := "") (Or.inl (W 41 rfl)) Via.refl e153 F_connectionsOpened_a2 E_a2 (Or.inl (W 42 rfl)) (W 1 rfl) (ty := .long) (by decide) rfl rfl (g := (mkF m 7 #[.val (.ref a2)] [(.long (c9 + (1 : Int64))), (.ref a2)])) rfl rfl (hb hby dx_prog_17_method_5_code_7)
  have Fw154 := F_connectionsOpened_a2.same W154
  have Z155 : n0 ≤ h154.size := Nat.le_trans Z0 (Keep.of_wr W154).1
  have K0_155 : Keep h0 h154 [a2] := (Keep.refl h0 [a2]).wr W154 (Or.inl (List.mem_of_getElem? (i := 0) rfl))
  have O155 : Old Z n0 h154 := X00.wr W154 g_a2
  have N154 := Fr.snoc X154 N0 g_a2
  have f156 := (E_a2.wr W154)
  have f157 := (F_requestCount_a2.other W154 (Or.inr (slot_ne (Or.inl (W 28 rfl)) (Or.inl (W 42 rfl)) (by decide) (t := .long) (t' := .long) (by decide) (by decide))))
  have f158 := (F_requestNanos_a2.other W154 (Or.inr (slot_ne (Or.inl (W 30 rfl)) (Or.inl (W 42 rfl)) (by decide) (t := .long) (t' := .long) (by decide) (by decide))))
  have f159 := (F_hadToWaitCount_a2.other W154 (Or.inr (slot_ne (Or.inl (W 19 rfl)) (Or.inl (W 42 rfl)) (by decide) (t := .long) (t' := .long) (by decide) (by decide))))
  have f160 := (F_waitNanos_a2.other W154 (Or.inr (slot_ne (Or.inl (W 21 rfl)) (Or.inl (W 42 rfl)) (by decide) (t := .long) (t' := .long) (by decide) (by decide))))
  have f161 := (F_badConnectionCount_a2.other W154 (Or.inr (slot_ne (Or.inl (W 32 rfl)) (Or.inl (W 42 rfl)) (by decide) (t := .long) (t' := .long) (by decide) (by decide))))
  have f162 := (F_claimedOverdueCount_a2.other W154 (Or.inr (slot_ne (Or.inl (W 34 rfl)) (Or.inl (W 42 rfl)) (by decide) (t := .long) (t' := .long) (by decide) (by decide))))
  have f163 := (F_overdueCheckoutNanos_a2.other W154 (Or.inr (slot_ne (Or.inl (W 36 rfl)) (Or.inl (W 42 rfl)) (by decide) (t := .long) (t' := .long) (by decide) (by decide))))
  have f164 := (F_checkoutCount_a2.other W154 (Or.inr (slot_ne (Or.inl (W 38 rfl)) (Or.inl (W 42 rfl)) (by decide) (t := .long) (t' := .long) (by decide) (by decide))))
  have f165 := (F_checkoutNanos_a2.other W154 (Or.inr (slot_ne (Or.inl (W 40 rfl)) (Or.inl (W 42 rfl)) (by decide) (t := .long) (t' := .long) (by decide) (by decide))))
  obtain ⟨fs, hr, hrun, hended, hW, hsame⟩ := X154.leave (v := none) (fun _ => rfl)
  refine ⟨_, _, pre0 _ ?_, hrun, hended, _, _, rfl, ?_, ⟨_, rfl⟩, hW, hsame.mono (Nat.le_of_ble_eq_true rfl) (Nat.le_of_ble_eq_true rfl)⟩
  · show Steps p.tables e below (s₁.setTop (mkF m 0 #[.val (.ref a2)] [])) _
    refine XS.aloadN X0.here hx rfl (hb hby dx_prog_17_method_5_code_0) rfl rfl ?_
    show Steps p.tables e below (s₁.setTop (mkF m 1 #[.val (.ref a2)] [(.ref a2)])) _
    refine XS.dup X0.here hx rfl (hb hby dx_prog_17_method_5_code_1) rfl rfl ?_
    show Steps p.tables e below (s₁.setTop (mkF m 2 #[.val (.ref a2)] [(.ref a2), (.ref a2)])) _
    refine st153 _ ?_
    show Steps p.tables e below (T153.setTop (mkF m 5 #[.val (.ref a2)] [(.long c9), (.ref a2)])) _
    refine XS.lconst X153.here hx rfl (hb hby dx_prog_17_method_5_code_5) ?_
    show Steps p.tables e below (T153.setTop (mkF m 6 #[.val (.ref a2)] [(.long (1 : Int64)), (.long c9), (.ref a2)])) _
    refine XS.ladd X153.here hx rfl (hb hby dx_prog_17_method_5_code_6) rfl ?_
    show Steps p.tables e below (T153.setTop (mkF m 7 #[.val (.ref a2)] [(.long (c9 + (1 : Int64))), (.ref a2)])) _
    refine st154 _ ?_
    show Steps p.tables e below (T154.setTop (mkF m 10 #[.val (.ref a2)] [])) _
    exact X154.returnOut hx Bd.returns (hb hby dx_prog_17_method_5_code_10) hr
  · show Qopened Z ns a2 c0 c1 c2 c3 c4 c5 c6 c7 c8 c9 h0 n0 _ T154.heap _
    rw [e154]
    exact ⟨rfl, N154, K0_155, f156, f157, f158, f159, f160, f161, f162, f163, f164, f165, Fw154⟩
theorem dx_prog_17_method_6_code_0 : decode prog_17_method_6_code 0 = .ok (.aload_n 0, 1) := by decide +kernel
theorem dx_prog_17_method_6_code_1 : decode prog_17_method_6_code 1 = .ok (.dup, 1) := by decide +kernel
theorem dx_prog_17_method_6_code_2 : decode prog_17_method_6_code 2 = .ok (.getfield 28, 3) := by decide +kernel
theorem dx_prog_17_method_6_code_5 : decode prog_17_method_6_code 5 = .ok (.lconst 1, 1) := by decide +kernel
theorem dx_prog_17_method_6_code_6 : decode prog_17_method_6_code 6 = .ok (.ladd, 1) := by decide +kernel
theorem dx_prog_17_method_6_code_7 : decode prog_17_method_6_code 7 = .ok (.putfield 28, 3) := by decide +kernel
theorem dx_prog_17_method_6_code_10 : decode prog_17_method_6_code 10 = .ok (.aload_n 0, 1) := by decide +kernel
theorem dx_prog_17_method_6_code_11 : decode prog_17_method_6_code 11 = .ok (.dup, 1) := by decide +kernel
theorem dx_prog_17_method_6_code_12 : decode prog_17_method_6_code 12 = .ok (.getfield 31, 3) := by decide +kernel
theorem dx_prog_17_method_6_code_15 : decode prog_17_method_6_code 15 = .ok (.lload_n 1, 1) := by decide +kernel
theorem dx_prog_17_method_6_code_16 : decode prog_17_method_6_code 16 = .ok (.ladd, 1) := by decide +kernel
theorem dx_prog_17_method_6_code_17 : decode prog_17_method_6_code 17 = .ok (.putfield 31, 3) := by decide +kernel
theorem dx_prog_17_method_6_code_20 : decode prog_17_method_6_code 20 = .ok (.return_, 1) := by decide +kernel
def QcheckedIn (Z : State) (ns : Addr) (a2 : Addr) (q : Int64) (c0 : Int64) (c1 : Int64) (c2 : Int64) (c3 : Int64) (c4 : Int64) (c5 : Int64) (c6 : Int64) (c7 : Int64) (c8 : Int64) (c9 : Int64) (h0 : Heap) (n0 : Nat) (v : Option Value) (h : Heap) (L : List Loc) : Prop := v = none ∧ Fr n0 L ∧ Keep h0 h [a2] ∧ Exa Z h a2 "com/example/cistern/cistern/PoolState$Counters" ∧ Fld Z h a2 "com/example/cistern/cistern/PoolState$Counters" "requestCount" "J" (.long c0) ∧ Fld Z h a2 "com/example/cistern/cistern/PoolState$Counters" "requestNanos" "J" (.long c1) ∧ Fld Z h a2 "com/example/cistern/cistern/PoolState$Counters" "hadToWaitCount" "J" (.long c2) ∧ Fld Z h a2 "com/example/cistern/cistern/PoolState$Counters" "waitNanos" "J" (.long c3) ∧ Fld Z h a2 "com/example/cistern/cistern/PoolState$Counters" "badConnectionCount" "J" (.long c4) ∧ Fld Z h a2 "com/example/cistern/cistern/PoolState$Counters" "claimedOverdueCount" "J" (.long c5) ∧ Fld Z h a2 "com/example/cistern/cistern/PoolState$Counters" "overdueCheckoutNanos" "J" (.long c6) ∧ Fld Z h a2 "com/example/cistern/cistern/PoolState$Counters" "checkoutCount" "J" (.long (c7 + (1 : Int64))) ∧ Fld Z h a2 "com/example/cistern/cistern/PoolState$Counters" "checkoutNanos" "J" (.long (c8 + q)) ∧ Fld Z h a2 "com/example/cistern/cistern/PoolState$Counters" "connectionsOpened" "J" (.long c9)
theorem ef_prog_17_method_6_code_RJ (m : MethodId) (x0 : Addr) (x1 : Int64) : entryFrame m #[(.ref x0), (.long x1)] 3 = mkF m 0 #[.val (.ref x0), .val (.long x1), .second] [] := by first | (simp [entryFrame, mkF, argsToLocals, Value.category]; done) | rfl
abbrev y18 : MethodName := ⟨"com/example/cistern/cistern/PoolState$Counters", "checkedIn", "(J)V"⟩
set_option maxRecDepth 65536 in
set_option maxHeartbeats 40000000 in
theorem rmcheckedIn (l : Launch) (Z : State) (a0 : Array Value) (ns : Addr) (hG : Glob Z a0 ns) (ws : List Jvm.Cond) (a2 : Addr) (q : Int64) (c0 : Int64) (c1 : Int64) (c2 : Int64) (c3 : Int64) (c4 : Int64) (c5 : Int64) (c6 : Int64) (c7 : Int64) (c8 : Int64) (c9 : Int64) (h0 : Heap) (n0 : Nat) (Z0 : n0 ≤ h0.size) (X00 : Old Z n0 h0) (E_a2 : Exa Z h0 a2 "com/example/cistern/cistern/PoolState$Counters") (g_a2 : n0 ≤ a2) (F_requestCount_a2 : Fld Z h0 a2 "com/example/cistern/cistern/PoolState$Counters" "requestCount" "J" (.long c0)) (F_requestNanos_a2 : Fld Z h0 a2 "com/example/cistern/cistern/PoolState$Counters" "requestNanos" "J" (.long c1)) (F_hadToWaitCount_a2 : Fld Z h0 a2 "com/example/cistern/cistern/PoolState$Counters" "hadToWaitCount" "J" (.long c2)) (F_waitNanos_a2 : Fld Z h0 a2 "com/example/cistern/cistern/PoolState$Counters" "waitNanos" "J" (.long c3)) (F_badConnectionCount_a2 : Fld Z h0 a2 "com/example/cistern/cistern/PoolState$Counters" "badConnectionCount" "J" (.long c4)) (F_claimedOverdueCount_a2 : Fld Z h0 a2 "com/example/cistern/cistern/PoolState$Counters" "claimedOverdueCount" "J" (.long c5)) (F_overdueCheckoutNanos_a2 : Fld Z h0 a2 "com/example/cistern/cistern/PoolState$Counters" "overdueCheckoutNanos" "J" (.long c6)) (F_checkoutCount_a2 : Fld Z h0 a2 "com/example/cistern/cistern/PoolState$Counters" "checkoutCount" "J" (.long c7)) (F_checkoutNanos_a2 : Fld Z h0 a2 "com/example/cistern/cistern/PoolState$Counters" "checkoutNanos" "J" (.long c8)) (F_connectionsOpened_a2 : Fld Z h0 a2 "com/example/cistern/cistern/PoolState$Counters" "connectionsOpened" "J" (.long c9)) :
    MetFree l y18 (head1 (Jvm.Cond.code y18 prog_17_method_6_code 3 none :: ws) ({ frames := 0, cells := 0, slots := 0, locals := 0 } : Room)) (fun a U => a = #[(.ref a2), (.long q)] ∧ Z.Warmed39 U.vm ∧ U.heap = h0) (fun _ _ _ _ _ => True) (fun _ U o U' => ∃ v L, o = .returned v ∧ QcheckedIn Z ns a2 q c0 c1 c2 c3 c4 c5 c6 c7 c8 c9 h0 n0 v U'.heap L ∧ FrameEnd U o U' L ({ frames := 0, cells := 0, slots := 0, locals := 0 } : Room).cells ({ frames := 0, cells := 0, slots := 0, locals := 0 } : Room).slots) := by
  obtain ⟨hw, O_ns, O_ens, O_scale, O_ratio⟩ := id hG
  have W : ∀ (i : Nat) {d : Jvm.Cond}, tables_1[i]? = some d → d.before a0 Z = true := fun i d h => hw d (List.mem_of_getElem? h)
  refine MetFree.of_bodySF (plainFor_of_name pn_com_example_cistern_cistern_PoolState_Counters) hisR ?_
  intro p e s m args below meth c s₁ Bd hml0 hP hK
  obtain ⟨rfl, hZ, hh⟩ := hP
  have hx := Bd.exec
  have hby := Bd.bytes
  have hml : c.maxLocals = 3 := hml0
  have hown : s.vm.findClass "com/example/cistern/cistern/PoolState$Counters" = some m.cls := findClass_of_methodNamed Bd.named
  have hnm := (name_of_methodNamed Bd.named Bd.method).1
  have X0 : Stand p l e ({ frames := 0, cells := 0, slots := 0, locals := 0 } : Room) s m #[(.ref a2), (.long q)] below meth c s₁ [] 0 0 := Stand.of_body Bd
  have e0 : s₁.heap = h0 := by rw [← hh, Bd.state]; rfl
  have N0 := Fr.nil n0
  have pre0 : ∀ t, Steps p.tables e below (s₁.setTop (mkF m 0 #[.val (.ref a2), .val (.long q), .second] [])) t → Steps p.tables e below (s₁.setTop (entryFrame m #[(.ref a2), (.long q)] 3)) t := fun t kk_ => castTop (ef_prog_17_method_6_code_RJ m a2 q) kk_
  obtain ⟨T166, X166, e166, st166⟩ := getF X0 hx hZ hown (host := "") (Or.inl (W 37 rfl)) Via.refl e0 F_checkoutCount_a2 (g := (mkF m 2 #[.val (.ref a2), .val (.long q), .second] [(.ref a2), (.ref a2)])) rfl rfl (hb hby dx_prog_17_method_6_code_2)
  obtain ⟨T167, h167, X167, e167, W167, st167⟩ := putF X166 hx hZ hown (host := "") (Or.inl (W 37 rfl)) Via.refl e166 F_checkoutCount_a2 E_a2 (Or.inl (W 38 rfl)) (W 1 rfl) (ty := .long) (by decide) rfl rfl (g := (mkF m 7 #[.val (.ref a2), .val (.long q), .second] [(.long (c7 + (1 : Int64))), (.ref a2)])) rfl rfl (hb hby dx_prog_17_method_6_code_7)
  have Fw167 := F_checkoutCount_a2.same W167
  have Z168 : n0 ≤ h167.size := Nat.le_trans Z0 (Keep.of_wr W167).1
  have K0_168 : Keep h0 h167 [a2] := (Keep.refl h0 [a2]).wr W167 (Or.inl (List.mem_of_getElem? (i := 0) rfl))
  have O168 : Old Z n0 h167 := X00.wr W167 g_a2
  have N167 := Fr.snoc X167 N0 g_a2
  have f169 := (F_checkoutNanos_a2.other W167 (Or.inr (slot_ne (Or.inl (W 40 rfl)) (Or.inl (W 38 rfl)) (by decide) (t := .long) (t' := .long) (by decide) (by decide))))
  obtain ⟨T170, X170, e170, st170⟩ := getF X167 hx hZ hown (host := "") (Or.inl (W 39 rfl)) Via.refl e167 f169 (g := (mkF m 12 #[.val (.ref a2), .val (.long q), .second] [(.ref a2), (.ref a2)])) rfl rfl (hb hby dx_prog_17_method_6_code_12)
  have f171 := (E_a2.wr W167)
  obtain ⟨T172, h172, X172, e172, W172, st172⟩ := putF X170 hx hZ hown (host := "") (Or.inl (W 39 rfl)) Via.refl e170 f169 f171 (Or.inl (W 40 rfl)) (W 1 rfl) (ty := .long) (by decide) rfl rfl (g := (mkF m 17 #[.val (.ref a2), .val (.long q), .second] [(.long (c8 + q)), (.ref a2)])) rfl rfl (hb hby dx_prog_17_method_6_code_17)
  have Fw172 := f169.same W172
  have Z173 : n0 ≤ h172.size := Nat.le_trans Z168 (Keep.of_wr W172).1
  have K0_173 : Keep h0 h172 [a2] := K0_168.wr W172 (Or.inl (List.mem_of_getElem? (i := 0) rfl))
  have O173 : Old Z n0 h172 := O168.wr W172 g_a2
  have N172 := Fr.snoc X172 N167 g_a2
  have f174 := (f171.wr W172)
  have f175 := ((F_requestCount_a2.other W167 (Or.inr (slot_ne (Or.inl (W 28 rfl)) (Or.inl (W 38 rfl)) (by decide) (t := .long) (t' := .long) (by decide) (by decide)))).other W172 (Or.inr (slot_ne (Or.inl (W 28 rfl)) (Or.inl (W 40 rfl)) (by decide) (t := .long) (t' := .long) (by decide) (by decide))))
  have f176 := ((F_requestNanos_a2.other W167 (Or.inr (slot_ne (Or.inl (W 30 rfl)) (Or.inl (W 38 rfl)) (by decide) (t := .long) (t' := .long) (by decide) (by decide)))).other W172 (Or.inr (slot_ne (Or.inl (W 30 rfl)) (Or.inl (W 40 rfl)) (by decide) (t := .long) (t' := .long) (by decide) (by decide))))
  have f177 := ((F_hadToWaitCount_a2.other W167 (Or.inr (slot_ne (Or.inl (W 19 rfl)) (Or.inl (W 38 rfl)) (by decide) (t := .long) (t' := .long) (by decide) (by decide)))).other W172 (Or.inr (slot_ne (Or.inl (W 19 rfl)) (Or.inl (W 40 rfl)) (by decide) (t := .long) (t' := .long) (by decide) (by decide))))
  have f178 := ((F_waitNanos_a2.other W167 (Or.inr (slot_ne (Or.inl (W 21 rfl)) (Or.inl (W 38 rfl)) (by decide) (t := .long) (t' := .long) (by decide) (by decide)))).other W172 (Or.inr (slot_ne (Or.inl (W 21 rfl)) (Or.inl (W 40 rfl)) (by decide) (t := .long) (t' := .long) (by decide) (by decide))))
  have f179 := ((F_badConnectionCount_a2.other W167 (Or.inr (slot_ne (Or.inl (W 32 rfl)) (Or.inl (W 38 rfl)) (by decide) (t := .long) (t' := .long) (by decide) (by decide)))).other W172 (Or.inr (slot_ne (Or.inl (W 32 rfl)) (Or.inl (W 40 rfl)) (by decide) (t := .long) (t' := .long) (by decide) (by decide))))
  have f180 := ((F_claimedOverdueCount_a2.other W167 (Or.inr (slot_ne (Or.inl (W 34 rfl)) (Or.inl (W 38 rfl)) (by decide) (t := .long) (t' := .long) (by decide) (by decide)))).other W172 (Or.inr (slot_ne (Or.inl (W 34 rfl)) (Or.inl (W 40 rfl)) (by decide) (t := .long) (t' := .long) (by decide) (by decide))))
  have f181 := ((F_overdueCheckoutNanos_a2.other W167 (Or.inr (slot_ne (Or.inl (W 36 rfl)) (Or.inl (W 38 rfl)) (by decide) (t := .long) (t' := .long) (by decide) (by decide)))).other W172 (Or.inr (slot_ne (Or.inl (W 36 rfl)) (Or.inl (W 40 rfl)) (by decide) (t := .long) (t' := .long) (by decide) (by decide))))
  have f182 := (Fw167.other W172 (Or.inr (slot_ne (Or.inl (W 38 rfl)) (Or.inl (W 40 rfl)) (by decide) (t := .long) (t' := .long) (by decide) (by decide))))
  have f183 := ((F_connectionsOpened_a2.other W167 (Or.inr (slot_ne (Or.inl (W 42 rfl)) (Or.inl (W 38 rfl)) (by decide) (t := .long) (t' := .long) (by decide) (by decide)))).other W172 (Or.inr (slot_ne (Or.inl (W 42 rfl)) (Or.inl (W 40 rfl)) (by decide) (t := .long) (t' := .long) (by decide) (by decide))))
  obtain ⟨fs, hr, hrun, hended, hW, hsame⟩ := X172.leave (v := none) (fun _ => rfl)
  refine ⟨_, _, pre0 _ ?_, hrun, hended, _, _, rfl, ?_, ⟨_, rfl⟩, hW, hsame.mono (Nat.le_of_ble_eq_true rfl) (Nat.le_of_ble_eq_true rfl)⟩
  · show Steps p.tables e below (s₁.setTop (mkF m 0 #[.val (.ref a2), .val (.long q), .second] [])) _
    refine XS.aloadN X0.here hx rfl (hb hby dx_prog_17_method_6_code_0) rfl rfl ?_
    show Steps p.tables e below (s₁.setTop (mkF m 1 #[.val (.ref a2), .val (.long q), .second] [(.ref a2)])) _
    refine XS.dup X0.here hx rfl (hb hby dx_prog_17_method_6_code_1) rfl rfl ?_
    show Steps p.tables e below (s₁.setTop (mkF m 2 #[.val (.ref a2), .val (.long q), .second] [(.ref a2), (.ref a2)])) _
    refine st166 _ ?_
    show Steps p.tables e below (T166.setTop (mkF m 5 #[.val (.ref a2), .val (.long q), .second] [(.long c7), (.ref a2)])) _
    refine XS.lconst X166.here hx rfl (hb hby dx_prog_17_method_6_code_5) ?_
    show Steps p.tables e below (T166.setTop (mkF m 6 #[.val (.ref a2), .val (.long q), .second] [(.long (1 : Int64)), (.long c7), (.ref a2)])) _
    refine XS.ladd X166.here hx rfl (hb hby dx_prog_17_method_6_code_6) rfl ?_
    show Steps p.tables e below (T166.setTop (mkF m 7 #[.val (.ref a2), .val (.long q), .second] [(.long (c7 + (1 : Int64))), (.ref a2)])) _
    refine st167 _ ?_
    show Steps p.tables e below (T167.setTop (mkF m 10 #[.val (.ref a2), .val (.long q), .second] [])) _
    refine XS.aloadN X167.here hx rfl (hb hby dx_prog_17_method_6_code_10) rfl rfl ?_
    show Steps p.tables e below (T167.setTop (mkF m 11 #[.val (.ref a2), .val (.long q), .second] [(.ref a2)])) _
    refine XS.dup X167.here hx rfl (hb hby dx_prog_17_method_6_code_11) rfl rfl ?_
    show Steps p.tables e below (T167.setTop (mkF m 12 #[.val (.ref a2), .val (.long q), .second] [(.ref a2), (.ref a2)])) _
    refine st170 _ ?_
    show Steps p.tables e below (T170.setTop (mkF m 15 #[.val (.ref a2), .val (.long q), .second] [(.long c8), (.ref a2)])) _
    refine XS.lloadN X170.here hx rfl (hb hby dx_prog_17_method_6_code_15) rfl ?_
    show Steps p.tables e below (T170.setTop (mkF m 16 #[.val (.ref a2), .val (.long q), .second] [(.long q), (.long c8), (.ref a2)])) _
    refine XS.ladd X170.here hx rfl (hb hby dx_prog_17_method_6_code_16) rfl ?_
    show Steps p.tables e below (T170.setTop (mkF m 17 #[.val (.ref a2), .val (.long q), .second] [(.long (c8 + q)), (.ref a2)])) _
    refine st172 _ ?_
    show Steps p.tables e below (T172.setTop (mkF m 20 #[.val (.ref a2), .val (.long q), .second] [])) _
    exact X172.returnOut hx Bd.returns (hb hby dx_prog_17_method_6_code_20) hr
  · show QcheckedIn Z ns a2 q c0 c1 c2 c3 c4 c5 c6 c7 c8 c9 h0 n0 _ T172.heap _
    rw [e172]
    exact ⟨rfl, N172, K0_173, f174, f175, f176, f177, f178, f179, f180, f181, f182, Fw172, f183⟩
theorem dx_prog_17_method_7_code_0 : decode prog_17_method_7_code 0 = .ok (.aload_n 0, 1) := by decide +kernel
theorem dx_prog_17_method_7_code_1 : decode prog_17_method_7_code 1 = .ok (.dup, 1) := by decide +kernel
theorem dx_prog_17_method_7_code_2 : decode prog_17_method_7_code 2 = .ok (.getfield 34, 3) := by decide +kernel
theorem dx_prog_17_method_7_code_5 : decode prog_17_method_7_code 5 = .ok (.lconst 1, 1) := by decide +kernel
theorem dx_prog_17_method_7_code_6 : decode prog_17_method_7_code 6 = .ok (.ladd, 1) := by decide +kernel
theorem dx_prog_17_method_7_code_7 : decode prog_17_method_7_code 7 = .ok (.putfield 34, 3) := by decide +kernel
theorem dx_prog_17_method_7_code_10 : decode prog_17_method_7_code 10 = .ok (.aload_n 0, 1) := by decide +kernel
theorem dx_prog_17_method_7_code_11 : decode prog_17_method_7_code 11 = .ok (.dup, 1) := by decide +kernel
theorem dx_prog_17_method_7_code_12 : decode prog_17_method_7_code 12 = .ok (.getfield 37, 3) := by decide +kernel
theorem dx_prog_17_method_7_code_15 : decode prog_17_method_7_code 15 = .ok (.lload_n 1, 1) := by decide +kernel
theorem dx_prog_17_method_7_code_16 : decode prog_17_method_7_code 16 = .ok (.ladd, 1) := by decide +kernel
theorem dx_prog_17_method_7_code_17 : decode prog_17_method_7_code 17 = .ok (.putfield 37, 3) := by decide +kernel
theorem dx_prog_17_method_7_code_20 : decode prog_17_method_7_code 20 = .ok (.aload_n 0, 1) := by decide +kernel
theorem dx_prog_17_method_7_code_21 : decode prog_17_method_7_code 21 = .ok (.lload_n 1, 1) := by decide +kernel
theorem dx_prog_17_method_7_code_22 : decode prog_17_method_7_code 22 = .ok (.invokevirtual 40, 3) := by decide +kernel
theorem pd__J_V : parseMethodDescriptor "(J)V" = some ⟨[.long], none⟩ := by decide +kernel
theorem dx_prog_17_method_7_code_25 : decode prog_17_method_7_code 25 = .ok (.return_, 1) := by decide +kernel
def Qclo (Z : State) (ns : Addr) (a2 : Addr) (q : Int64) (c0 : Int64) (c1 : Int64) (c2 : Int64) (c3 : Int64) (c4 : Int64) (c5 : Int64) (c6 : Int64) (c7 : Int64) (c8 : Int64) (c9 : Int64) (h0 : Heap) (n0 : Nat) (v : Option Value) (h : Heap) (L : List Loc) : Prop := v = none ∧ Fr n0 L ∧ Keep h0 h [a2] ∧ Exa Z h a2 "com/example/cistern/cistern/PoolState$Counters" ∧ Fld Z h a2 "com/example/cistern/cistern/PoolState$Counters" "requestCount" "J" (.long c0) ∧ Fld Z h a2 "com/example/cistern/cistern/PoolState$Counters" "requestNanos" "J" (.long c1) ∧ Fld Z h a2 "com/example/cistern/cistern/PoolState$Counters" "hadToWaitCount" "J" (.long c2) ∧ Fld Z h a2 "com/example/cistern/cistern/PoolState$Counters" "waitNanos" "J" (.long c3) ∧ Fld Z h a2 "com/example/cistern/cistern/PoolState$Counters" "badConnectionCount" "J" (.long c4) ∧ Fld Z h a2 "com/example/cistern/cistern/PoolState$Counters" "claimedOverdueCount" "J" (.long (c5 + (1 : Int64))) ∧ Fld Z h a2 "com/example/cistern/cistern/PoolState$Counters" "overdueCheckoutNanos" "J" (.long (c6 + q)) ∧ Fld Z h a2 "com/example/cistern/cistern/PoolState$Counters" "checkoutCount" "J" (.long (c7 + (1 : Int64))) ∧ Fld Z h a2 "com/example/cistern/cistern/PoolState$Counters" "checkoutNanos" "J" (.long (c8 + q)) ∧ Fld Z h a2 "com/example/cistern/cistern/PoolState$Counters" "connectionsOpened" "J" (.long c9)
theorem ef_prog_17_method_7_code_RJ (m : MethodId) (x0 : Addr) (x1 : Int64) : entryFrame m #[(.ref x0), (.long x1)] 3 = mkF m 0 #[.val (.ref x0), .val (.long x1), .second] [] := by first | (simp [entryFrame, mkF, argsToLocals, Value.category]; done) | rfl
abbrev y19 : MethodName := ⟨"com/example/cistern/cistern/PoolState$Counters", "claimedOverdue", "(J)V"⟩
set_option maxRecDepth 65536 in
set_option maxHeartbeats 40000000 in
theorem rmclo (l : Launch) (Z : State) (a0 : Array Value) (ns : Addr) (hG : Glob Z a0 ns) (ws : List Jvm.Cond) (a2 : Addr) (q : Int64) (c0 : Int64) (c1 : Int64) (c2 : Int64) (c3 : Int64) (c4 : Int64) (c5 : Int64) (c6 : Int64) (c7 : Int64) (c8 : Int64) (c9 : Int64) (h0 : Heap) (n0 : Nat) (Z0 : n0 ≤ h0.size) (X00 : Old Z n0 h0) (E_a2 : Exa Z h0 a2 "com/example/cistern/cistern/PoolState$Counters") (g_a2 : n0 ≤ a2) (F_requestCount_a2 : Fld Z h0 a2 "com/example/cistern/cistern/PoolState$Counters" "requestCount" "J" (.long c0)) (F_requestNanos_a2 : Fld Z h0 a2 "com/example/cistern/cistern/PoolState$Counters" "requestNanos" "J" (.long c1)) (F_hadToWaitCount_a2 : Fld Z h0 a2 "com/example/cistern/cistern/PoolState$Counters" "hadToWaitCount" "J" (.long c2)) (F_waitNanos_a2 : Fld Z h0 a2 "com/example/cistern/cistern/PoolState$Counters" "waitNanos" "J" (.long c3)) (F_badConnectionCount_a2 : Fld Z h0 a2 "com/example/cistern/cistern/PoolState$Counters" "badConnectionCount" "J" (.long c4)) (F_claimedOverdueCount_a2 : Fld Z h0 a2 "com/example/cistern/cistern/PoolState$Counters" "claimedOverdueCount" "J" (.long c5)) (F_overdueCheckoutNanos_a2 : Fld Z h0 a2 "com/example/cistern/cistern/PoolState$Counters" "overdueCheckoutNanos" "J" (.long c6)) (F_checkoutCount_a2 : Fld Z h0 a2 "com/example/cistern/cistern/PoolState$Counters" "checkoutCount" "J" (.long c7)) (F_checkoutNanos_a2 : Fld Z h0 a2 "com/example/cistern/cistern/PoolState$Counters" "checkoutNanos" "J" (.long c8)) (F_connectionsOpened_a2 : Fld Z h0 a2 "com/example/cistern/cistern/PoolState$Counters" "connectionsOpened" "J" (.long c9)) :
    MetFree l y19 (head1 (Jvm.Cond.code y19 prog_17_method_7_code 3 none :: ws) ({ frames := 1, cells := 0, slots := 0, locals := 14 } : Room)) (fun a U => a = #[(.ref a2), (.long q)] ∧ Z.Warmed39 U.vm ∧ U.heap = h0) (fun _ _ _ _ _ => True) (fun _ U o U' => ∃ v L, o = .returned v ∧ Qclo Z ns a2 q c0 c1 c2 c3 c4 c5 c6 c7 c8 c9 h0 n0 v U'.heap L ∧ FrameEnd U o U' L ({ frames := 1, cells := 0, slots := 0, locals := 14 } : Room).cells ({ frames := 1, cells := 0, slots := 0, locals := 14 } : Room).slots) := by
  obtain ⟨hw, O_ns, O_ens, O_scale, O_ratio⟩ := id hG
  have W : ∀ (i : Nat) {d : Jvm.Cond}, tables_1[i]? = some d → d.before a0 Z = true := fun i d h => hw d (List.mem_of_getElem? h)
  refine MetFree.of_bodySF (plainFor_of_name pn_com_example_cistern_cistern_PoolState_Counters) hisR ?_
  intro p e s m args below meth c s₁ Bd hml0 hP hK
  obtain ⟨rfl, hZ, hh⟩ := hP
  have hx := Bd.exec
  have hby := Bd.bytes
  have hml : c.maxLocals = 3 := hml0
  have hown : s.vm.findClass "com/example/cistern/cistern/PoolState$Counters" = some m.cls := findClass_of_methodNamed Bd.named
  have hnm := (name_of_methodNamed Bd.named Bd.method).1
  have X0 : Stand p l e ({ frames := 1, cells := 0, slots := 0, locals := 14 } : Room) s m #[(.ref a2), (.long q)] below meth c s₁ [] 0 0 := Stand.of_body Bd
  have e0 : s₁.heap = h0 := by rw [← hh, Bd.state]; rfl
  have N0 := Fr.nil n0
  have pre0 : ∀ t, Steps p.tables e below (s₁.setTop (mkF m 0 #[.val (.ref a2), .val (.long q), .second] [])) t → Steps p.tables e below (s₁.setTop (entryFrame m #[(.ref a2), (.long q)] 3)) t := fun t kk_ => castTop (ef_prog_17_method_7_code_RJ m a2 q) kk_
  obtain ⟨T184, X184, e184, st184⟩ := getF X0 hx hZ hown (host := "") (Or.inl (W 33 rfl)) Via.refl e0 F_claimedOverdueCount_a2 (g := (mkF m 2 #[.val (.ref a2), .val (.long q), .second] [(.ref a2), (.ref a2)])) rfl rfl (hb hby dx_prog_17_method_7_code_2)
  obtain ⟨T185, h185, X185, e185, W185, st185⟩ := putF X184 hx hZ hown (host := "") (Or.inl (W 33 rfl)) Via.refl e184 F_claimedOverdueCount_a2 E_a2 (Or.inl (W 34 rfl)) (W 1 rfl) (ty := .long) (by decide) rfl rfl (g := (mkF m 7 #[.val (.ref a2), .val (.long q), .second] [(.long (c5 + (1 : Int64))), (.ref a2)])) rfl rfl (hb hby dx_prog_17_method_7_code_7)
  have Fw185 := F_claimedOverdueCount_a2.same W185
  have Z186 : n0 ≤ h185.size := Nat.le_trans Z0 (Keep.of_wr W185).1
  have K0_186 : Keep h0 h185 [a2] := (Keep.refl h0 [a2]).wr W185 (Or.inl (List.mem_of_getElem? (i := 0) rfl))
  have O186 : Old Z n0 h185 := X00.wr W185 g_a2
  have N185 := Fr.snoc X185 N0 g_a2
  have f187 := (F_overdueCheckoutNanos_a2.other W185 (Or.inr (slot_ne (Or.inl (W 36 rfl)) (Or.inl (W 34 rfl)) (by decide) (t := .long) (t' := .long) (by decide) (by decide))))
  obtain ⟨T188, X188, e188, st188⟩ := getF X185 hx hZ hown (host := "") (Or.inl (W 35 rfl)) Via.refl e185 f187 (g := (mkF m 12 #[.val (.ref a2), .val (.long q), .second] [(.ref a2), (.ref a2)])) rfl rfl (hb hby dx_prog_17_method_7_code_12)
  have f189 := (E_a2.wr W185)
  obtain ⟨T190, h190, X190, e190, W190, st190⟩ := putF X188 hx hZ hown (host := "") (Or.inl (W 35 rfl)) Via.refl e188 f187 f189 (Or.inl (W 36 rfl)) (W 1 rfl) (ty := .long) (by decide) rfl rfl (g := (mkF m 17 #[.val (.ref a2), .val (.long q), .second] [(.long (c6 + q)), (.ref a2)])) rfl rfl (hb hby dx_prog_17_method_7_code_17)
  have Fw190 := f187.same W190
  have Z191 : n0 ≤ h190.size := Nat.le_trans Z186 (Keep.of_wr W190).1
  have K0_191 : Keep h0 h190 [a2] := K0_186.wr W190 (Or.inl (List.mem_of_getElem? (i := 0) rfl))
  have O191 : Old Z n0 h190 := O186.wr W190 g_a2
  have N190 := Fr.snoc X190 N185 g_a2
  have f193 := (f189.wr W190)
  have f194 := ((F_requestCount_a2.other W185 (Or.inr (slot_ne (Or.inl (W 28 rfl)) (Or.inl (W 34 rfl)) (by decide) (t := .long) (t' := .long) (by decide) (by decide)))).other W190 (Or.inr (slot_ne (Or.inl (W 28 rfl)) (Or.inl (W 36 rfl)) (by decide) (t := .long) (t' := .long) (by decide) (by decide))))
  have f195 := ((F_requestNanos_a2.other W185 (Or.inr (slot_ne (Or.inl (W 30 rfl)) (Or.inl (W 34 rfl)) (by decide) (t := .long) (t' := .long) (by decide) (by decide)))).other W190 (Or.inr (slot_ne (Or.inl (W 30 rfl)) (Or.inl (W 36 rfl)) (by decide) (t := .long) (t' := .long) (by decide) (by decide))))
  have f196 := ((F_hadToWaitCount_a2.other W185 (Or.inr (slot_ne (Or.inl (W 19 rfl)) (Or.inl (W 34 rfl)) (by decide) (t := .long) (t' := .long) (by decide) (by decide)))).other W190 (Or.inr (slot_ne (Or.inl (W 19 rfl)) (Or.inl (W 36 rfl)) (by decide) (t := .long) (t' := .long) (by decide) (by decide))))
  have f197 := ((F_waitNanos_a2.other W185 (Or.inr (slot_ne (Or.inl (W 21 rfl)) (Or.inl (W 34 rfl)) (by decide) (t := .long) (t' := .long) (by decide) (by decide)))).other W190 (Or.inr (slot_ne (Or.inl (W 21 rfl)) (Or.inl (W 36 rfl)) (by decide) (t := .long) (t' := .long) (by decide) (by decide))))
  have f198 := ((F_badConnectionCount_a2.other W185 (Or.inr (slot_ne (Or.inl (W 32 rfl)) (Or.inl (W 34 rfl)) (by decide) (t := .long) (t' := .long) (by decide) (by decide)))).other W190 (Or.inr (slot_ne (Or.inl (W 32 rfl)) (Or.inl (W 36 rfl)) (by decide) (t := .long) (t' := .long) (by decide) (by decide))))
  have f199 := (Fw185.other W190 (Or.inr (slot_ne (Or.inl (W 34 rfl)) (Or.inl (W 36 rfl)) (by decide) (t := .long) (t' := .long) (by decide) (by decide))))
  have f200 := ((F_checkoutCount_a2.other W185 (Or.inr (slot_ne (Or.inl (W 38 rfl)) (Or.inl (W 34 rfl)) (by decide) (t := .long) (t' := .long) (by decide) (by decide)))).other W190 (Or.inr (slot_ne (Or.inl (W 38 rfl)) (Or.inl (W 36 rfl)) (by decide) (t := .long) (t' := .long) (by decide) (by decide))))
  have f201 := ((F_checkoutNanos_a2.other W185 (Or.inr (slot_ne (Or.inl (W 40 rfl)) (Or.inl (W 34 rfl)) (by decide) (t := .long) (t' := .long) (by decide) (by decide)))).other W190 (Or.inr (slot_ne (Or.inl (W 40 rfl)) (Or.inl (W 36 rfl)) (by decide) (t := .long) (t' := .long) (by decide) (by decide))))
  have f202 := ((F_connectionsOpened_a2.other W185 (Or.inr (slot_ne (Or.inl (W 42 rfl)) (Or.inl (W 34 rfl)) (by decide) (t := .long) (t' := .long) (by decide) (by decide)))).other W190 (Or.inr (slot_ne (Or.inl (W 42 rfl)) (Or.inl (W 36 rfl)) (by decide) (t := .long) (t' := .long) (by decide) (by decide))))
  obtain ⟨cq192, kq192, q192a, q192b, q192c⟩ := isOf hZ e190 f193
  -- pc 22: com/example/cistern/cistern/PoolState$Counters.checkedIn
  obtain ⟨_, _, ⟨T192, L192, k192, n192⟩, -, X192, ⟨Lc192, hQ192, l192, y192, z192⟩, st192⟩ := X190.virtualBack hx (y := y18) (z := y18) hown (mvT hZ (W 174 rfl)) (mvT hZ (W 175 rfl)) (notFace_of_selects (args := #[]) (mvT hZ (W 177 rfl))) (mvT hZ (W 177 rfl)) (mvT hZ (W 176 rfl)) (by decide) (backOf (W := 0) (rmcheckedIn l Z a0 ns hG [] a2 q c0 c1 c2 c3 c4 (c5 + (1 : Int64)) (c6 + q) c7 c8 c9 h190 n0 Z191 O191 f193 g_a2 f194 f195 f196 f197 f198 f199 Fw190 f200 f201 f202) hZ (W 178 rfl) (W 2 rfl) (by decide) (by decide)) q192a q192c (g := (mkF m 22 #[.val (.ref a2), .val (.long q), .second] [(.long q), (.ref a2)])) rfl (by rw [hml]; rfl) (Steps.refl _) (argsL := [(.long q)]) (rest := []) (lenOf pd__J_V rfl) rfl (by show 2 * 0 + _ ≤ _; exact Nat.le_of_eq rfl) (hb hby dx_prog_17_method_7_code_22) (fun _ _ => ⟨rfl, e190, (by decide : 0 + 0 ≤ _), (by decide : 0 + 0 ≤ _)⟩)
  dsimp only [Pt.U, Pt.locs, Pt.cells, Pt.slots] at X192 l192 y192 z192 st192 hQ192
  subst l192 y192 z192
  obtain ⟨rfl, N192q, K192, f192_0, f192_1, f192_2, f192_3, f192_4, f192_5, f192_6, f192_7, f192_8, f192_9, f192_10⟩ := hQ192
  have N192 := Fr.app N190 N192q
  have Z203 : n0 ≤ T192.heap.size := Nat.le_trans Z191 K192.1
  have K0_203 : Keep h0 T192.heap [a2] := K0_191.trans K192 (allS (Or.inl (List.mem_of_getElem? (i := 0) rfl)) all0)
  have O203 : Old Z n0 T192.heap := O191.keep K192 (allS g_a2 all0)
  obtain ⟨fs, hr, hrun, hended, hW, hsame⟩ := X192.leave (v := none) (fun _ => rfl)
  refine ⟨_, _, pre0 _ ?_, hrun, hended, _, _, rfl, ?_, ⟨_, rfl⟩, hW, hsame.mono (Nat.le_of_ble_eq_true rfl) (Nat.le_of_ble_eq_true rfl)⟩
  · show Steps p.tables e below (s₁.setTop (mkF m 0 #[.val (.ref a2), .val (.long q), .second] [])) _
    refine XS.aloadN X0.here hx rfl (hb hby dx_prog_17_method_7_code_0) rfl rfl ?_
    show Steps p.tables e below (s₁.setTop (mkF m 1 #[.val (.ref a2), .val (.long q), .second] [(.ref a2)])) _
    refine XS.dup X0.here hx rfl (hb hby dx_prog_17_method_7_code_1) rfl rfl ?_
    show Steps p.tables e below (s₁.setTop (mkF m 2 #[.val (.ref a2), .val (.long q), .second] [(.ref a2), (.ref a2)])) _
    refine st184 _ ?_
    show Steps p.tables e below (T184.setTop (mkF m 5 #[.val (.ref a2), .val (.long q), .second] [(.long c5), (.ref a2)])) _
    refine XS.lconst X184.here hx rfl (hb hby dx_prog_17_method_7_code_5) ?_
    show Steps p.tables e below (T184.setTop (mkF m 6 #[.val (.ref a2), .val (.long q), .second] [(.long (1 : Int64)), (.long c5), (.ref a2)])) _
    refine XS.ladd X184.here hx rfl (hb hby dx_prog_17_method_7_code_6) rfl ?_
    show Steps p.tables e below (T184.setTop (mkF m 7 #[.val (.ref a2), .val (.long q), .second] [(.long (c5 + (1 : Int64))), (.ref a2)])) _
    refine st185 _ ?_
    show Steps p.tables e below (T185.setTop (mkF m 10 #[.val (.ref a2), .val (.long q), .second] [])) _
    refine XS.aloadN X185.here hx rfl (hb hby dx_prog_17_method_7_code_10) rfl rfl ?_
    show Steps p.tables e below (T185.setTop (mkF m 11 #[.val (.ref a2), .val (.long q), .second] [(.ref a2)])) _
    refine XS.dup X185.here hx rfl (hb hby dx_prog_17_method_7_code_11) rfl rfl ?_
    show Steps p.tables e below (T185.setTop (mkF m 12 #[.val (.ref a2), .val (.long q), .second] [(.ref a2), (.ref a2)])) _
    refine st188 _ ?_
    show Steps p.tables e below (T188.setTop (mkF m 15 #[.val (.ref a2), .val (.long q), .second] [(.long c6), (.ref a2)])) _
    refine XS.lloadN X188.here hx rfl (hb hby dx_prog_17_method_7_code_15) rfl ?_
    show Steps p.tables e below (T188.setTop (mkF m 16 #[.val (.ref a2), .val (.long q), .second] [(.long q), (.long c6), (.ref a2)])) _
    refine XS.ladd X188.here hx rfl (hb hby dx_prog_17_method_7_code_16) rfl ?_
    show Steps p.tables e below (T188.setTop (mkF m 17 #[.val (.ref a2), .val (.long q), .second] [(.long (c6 + q)), (.ref a2)])) _
    refine st190 _ ?_
    show Steps p.tables e below (T190.setTop (mkF m 20 #[.val (.ref a2), .val (.long q), .second] [])) _
    refine XS.aloadN X190.here hx rfl (hb hby dx_prog_17_method_7_code_20) rfl rfl ?_
    show Steps p.tables e below (T190.setTop (mkF m 21 #[.val (.ref a2), .val (.long q), .second] [(.ref a2)])) _
    refine XS.lloadN X190.here hx rfl (hb hby dx_prog_17_method_7_code_21) rfl ?_
    show Steps p.tables e below (T190.setTop (mkF m 22 #[.val (.ref a2), .val (.long q), .second] [(.long q), (.ref a2)])) _
    refine st192.trans ?_
    show Steps p.tables e below (T192.setTop (mkF m 25 #[.val (.ref a2), .val (.long q), .second] [])) _
    exact X192.returnOut hx Bd.returns (hb hby dx_prog_17_method_7_code_25) hr
  · show Qclo Z ns a2 q c0 c1 c2 c3 c4 c5 c6 c7 c8 c9 h0 n0 _ T192.heap _
    exact ⟨rfl, N192, K0_203, f192_0, f192_1, f192_2, f192_3, f192_4, f192_5, f192_6, f192_7, f192_8, f192_9, f192_10⟩
theorem dx_prog_17_method_8_code_0 : decode prog_17_method_8_code 0 = .ok (.aload_n 0, 1) := by decide +kernel
theorem dx_prog_17_method_8_code_1 : decode prog_17_method_8_code 1 = .ok (.dup, 1) := by decide +kernel
theorem dx_prog_17_method_8_code_2 : decode prog_17_method_8_code 2 = .ok (.getfield 7, 3) := by decide +kernel
theorem dx_prog_17_method_8_code_5 : decode prog_17_method_8_code 5 = .ok (.aload_n 1, 1) := by decide +kernel
theorem dx_prog_17_method_8_code_6 : decode prog_17_method_8_code 6 = .ok (.getfield 7, 3) := by decide +kernel
theorem dx_prog_17_method_8_code_9 : decode prog_17_method_8_code 9 = .ok (.ladd, 1) := by decide +kernel
theorem dx_prog_17_method_8_code_10 : decode prog_17_method_8_code 10 = .ok (.putfield 7, 3) := by decide +kernel
theorem dx_prog_17_method_8_code_13 : decode prog_17_method_8_code 13 = .ok (.aload_n 0, 1) := by decide +kernel
theorem dx_prog_17_method_8_code_14 : decode prog_17_method_8_code 14 = .ok (.dup, 1) := by decide +kernel
theorem dx_prog_17_method_8_code_15 : decode prog_17_method_8_code 15 = .ok (.getfield 13, 3) := by decide +kernel
theorem dx_prog_17_method_8_code_18 : decode prog_17_method_8_code 18 = .ok (.aload_n 1, 1) := by decide +kernel
theorem dx_prog_17_method_8_code_19 : decode prog_17_method_8_code 19 = .ok (.getfield 13, 3) := by decide +kernel
theorem dx_prog_17_method_8_code_22 : decode prog_17_method_8_code 22 = .ok (.ladd, 1) := by decide +kernel
theorem dx_prog_17_method_8_code_23 : decode prog_17_method_8_code 23 = .ok (.putfield 13, 3) := by decide +kernel
theorem dx_prog_17_method_8_code_26 : decode prog_17_method_8_code 26 = .ok (.aload_n 0, 1) := by decide +kernel
theorem dx_prog_17_method_8_code_27 : decode prog_17_method_8_code 27 = .ok (.dup, 1) := by decide +kernel
theorem dx_prog_17_method_8_code_28 : decode prog_17_method_8_code 28 = .ok (.getfield 16, 3) := by decide +kernel
theorem dx_prog_17_method_8_code_31 : decode prog_17_method_8_code 31 = .ok (.aload_n 1, 1) := by decide +kernel
theorem dx_prog_17_method_8_code_32 : decode prog_17_method_8_code 32 = .ok (.getfield 16, 3) := by decide +kernel
theorem dx_prog_17_method_8_code_35 : decode prog_17_method_8_code 35 = .ok (.ladd, 1) := by decide +kernel
theorem dx_prog_17_method_8_code_36 : decode prog_17_method_8_code 36 = .ok (.putfield 16, 3) := by decide +kernel
theorem dx_prog_17_method_8_code_39 : decode prog_17_method_8_code 39 = .ok (.aload_n 0, 1) := by decide +kernel
theorem dx_prog_17_method_8_code_40 : decode prog_17_method_8_code 40 = .ok (.dup, 1) := by decide +kernel
theorem dx_prog_17_method_8_code_41 : decode prog_17_method_8_code 41 = .ok (.getfield 19, 3) := by decide +kernel
theorem dx_prog_17_method_8_code_44 : decode prog_17_method_8_code 44 = .ok (.aload_n 1, 1) := by decide +kernel
theorem dx_prog_17_method_8_code_45 : decode prog_17_method_8_code 45 = .ok (.getfield 19, 3) := by decide +kernel
theorem dx_prog_17_method_8_code_48 : decode prog_17_method_8_code 48 = .ok (.ladd, 1) := by decide +kernel
theorem dx_prog_17_method_8_code_49 : decode prog_17_method_8_code 49 = .ok (.putfield 19, 3) := by decide +kernel
theorem dx_prog_17_method_8_code_52 : decode prog_17_method_8_code 52 = .ok (.aload_n 0, 1) := by decide +kernel
theorem dx_prog_17_method_8_code_53 : decode prog_17_method_8_code 53 = .ok (.dup, 1) := by decide +kernel
theorem dx_prog_17_method_8_code_54 : decode prog_17_method_8_code 54 = .ok (.getfield 22, 3) := by decide +kernel
theorem dx_prog_17_method_8_code_57 : decode prog_17_method_8_code 57 = .ok (.aload_n 1, 1) := by decide +kernel
theorem dx_prog_17_method_8_code_58 : decode prog_17_method_8_code 58 = .ok (.getfield 22, 3) := by decide +kernel
theorem dx_prog_17_method_8_code_61 : decode prog_17_method_8_code 61 = .ok (.ladd, 1) := by decide +kernel
theorem dx_prog_17_method_8_code_62 : decode prog_17_method_8_code 62 = .ok (.putfield 22, 3) := by decide +kernel
theorem dx_prog_17_method_8_code_65 : decode prog_17_method_8_code 65 = .ok (.aload_n 0, 1) := by decide +kernel
theorem dx_prog_17_method_8_code_66 : decode prog_17_method_8_code 66 = .ok (.dup, 1) := by decide +kernel
theorem dx_prog_17_method_8_code_67 : decode prog_17_method_8_code 67 = .ok (.getfield 34, 3) := by decide +kernel
theorem dx_prog_17_method_8_code_70 : decode prog_17_method_8_code 70 = .ok (.aload_n 1, 1) := by decide +kernel
theorem dx_prog_17_method_8_code_71 : decode prog_17_method_8_code 71 = .ok (.getfield 34, 3) := by decide +kernel
theorem dx_prog_17_method_8_code_74 : decode prog_17_method_8_code 74 = .ok (.ladd, 1) := by decide +kernel
theorem dx_prog_17_method_8_code_75 : decode prog_17_method_8_code 75 = .ok (.putfield 34, 3) := by decide +kernel
theorem dx_prog_17_method_8_code_78 : decode prog_17_method_8_code 78 = .ok (.aload_n 0, 1) := by decide +kernel
theorem dx_prog_17_method_8_code_79 : decode prog_17_method_8_code 79 = .ok (.dup, 1) := by decide +kernel
theorem dx_prog_17_method_8_code_80 : decode prog_17_method_8_code 80 = .ok (.getfield 37, 3) := by decide +kernel
theorem dx_prog_17_method_8_code_83 : decode prog_17_method_8_code 83 = .ok (.aload_n 1, 1) := by decide +kernel
theorem dx_prog_17_method_8_code_84 : decode prog_17_method_8_code 84 = .ok (.getfield 37, 3) := by decide +kernel
theorem dx_prog_17_method_8_code_87 : decode prog_17_method_8_code 87 = .ok (.ladd, 1) := by decide +kernel
theorem dx_prog_17_method_8_code_88 : decode prog_17_method_8_code 88 = .ok (.putfield 37, 3) := by decide +kernel
theorem dx_prog_17_method_8_code_91 : decode prog_17_method_8_code 91 = .ok (.aload_n 0, 1) := by decide +kernel
theorem dx_prog_17_method_8_code_92 : decode prog_17_method_8_code 92 = .ok (.dup, 1) := by decide +kernel
theorem dx_prog_17_method_8_code_93 : decode prog_17_method_8_code 93 = .ok (.getfield 28, 3) := by decide +kernel
theorem dx_prog_17_method_8_code_96 : decode prog_17_method_8_code 96 = .ok (.aload_n 1, 1) := by decide +kernel
theorem dx_prog_17_method_8_code_97 : decode prog_17_method_8_code 97 = .ok (.getfield 28, 3) := by decide +kernel
theorem dx_prog_17_method_8_code_100 : decode prog_17_method_8_code 100 = .ok (.ladd, 1) := by decide +kernel
theorem dx_prog_17_method_8_code_101 : decode prog_17_method_8_code 101 = .ok (.putfield 28, 3) := by decide +kernel
theorem dx_prog_17_method_8_code_104 : decode prog_17_method_8_code 104 = .ok (.aload_n 0, 1) := by decide +kernel
theorem dx_prog_17_method_8_code_105 : decode prog_17_method_8_code 105 = .ok (.dup, 1) := by decide +kernel
theorem dx_prog_17_method_8_code_106 : decode prog_17_method_8_code 106 = .ok (.getfield 31, 3) := by decide +kernel
theorem dx_prog_17_method_8_code_109 : decode prog_17_method_8_code 109 = .ok (.aload_n 1, 1) := by decide +kernel
theorem dx_prog_17_method_8_code_110 : decode prog_17_method_8_code 110 = .ok (.getfield 31, 3) := by decide +kernel
theorem dx_prog_17_method_8_code_113 : decode prog_17_method_8_code 113 = .ok (.ladd, 1) := by decide +kernel
theorem dx_prog_17_method_8_code_114 : decode prog_17_method_8_code 114 = .ok (.putfield 31, 3) := by decide +kernel
theorem dx_prog_17_method_8_code_117 : decode prog_17_method_8_code 117 = .ok (.aload_n 0, 1) := by decide +kernel
theorem dx_prog_17_method_8_code_118 : decode prog_17_method_8_code 118 = .ok (.dup, 1) := by decide +kernel
theorem dx_prog_17_method_8_code_119 : decode prog_17_method_8_code 119 = .ok (.getfield 25, 3) := by decide +kernel
theorem dx_prog_17_method_8_code_122 : decode prog_17_method_8_code 122 = .ok (.aload_n 1, 1) := by decide +kernel
theorem dx_prog_17_method_8_code_123 : decode prog_17_method_8_code 123 = .ok (.getfield 25, 3) := by decide +kernel
theorem dx_prog_17_method_8_code_126 : decode prog_17_method_8_code 126 = .ok (.ladd, 1) := by decide +kernel
theorem dx_prog_17_method_8_code_127 : decode prog_17_method_8_code 127 = .ok (.putfield 25, 3) := by decide +kernel
theorem dx_prog_17_method_8_code_130 : decode prog_17_method_8_code 130 = .ok (.return_, 1) := by decide +kernel
def Qadd (Z : State) (ns : Addr) (a2 : Addr) (a3 : Addr) (c0 : Int64) (c1 : Int64) (c2 : Int64) (c3 : Int64) (c4 : Int64) (c5 : Int64) (c6 : Int64) (c7 : Int64) (c8 : Int64) (c9 : Int64) (d0 : Int64) (d1 : Int64) (d2 : Int64) (d3 : Int64) (d4 : Int64) (d5 : Int64) (d6 : Int64) (d7 : Int64) (d8 : Int64) (d9 : Int64) (h0 : Heap) (n0 : Nat) (v : Option Value) (h : Heap) (L : List Loc) : Prop := v = none ∧ Fr n0 L ∧ Keep h0 h [a2] ∧ Exa Z h a2 "com/example/cistern/cistern/PoolState$Counters" ∧ Fld Z h a2 "com/example/cistern/cistern/PoolState$Counters" "requestCount" "J" (.long (c0 + d0)) ∧ Fld Z h a2 "com/example/cistern/cistern/PoolState$Counters" "requestNanos" "J" (.long (c1 + d1)) ∧ Fld Z h a2 "com/example/cistern/cistern/PoolState$Counters" "hadToWaitCount" "J" (.long (c2 + d2)) ∧ Fld Z h a2 "com/example/cistern/cistern/PoolState$Counters" "waitNanos" "J" (.long (c3 + d3)) ∧ Fld Z h a2 "com/example/cistern/cistern/PoolState$Counters" "badConnectionCount" "J" (.long (c4 + d4)) ∧ Fld Z h a2 "com/example/cistern/cistern/PoolState$Counters" "claimedOverdueCount" "J" (.long (c5 + d5)) ∧ Fld Z h a2 "com/example/cistern/cistern/PoolState$Counters" "overdueCheckoutNanos" "J" (.long (c6 + d6)) ∧ Fld Z h a2 "com/example/cistern/cistern/PoolState$Counters" "checkoutCount" "J" (.long (c7 + d7)) ∧ Fld Z h a2 "com/example/cistern/cistern/PoolState$Counters" "checkoutNanos" "J" (.long (c8 + d8)) ∧ Fld Z h a2 "com/example/cistern/cistern/PoolState$Counters" "connectionsOpened" "J" (.long (c9 + d9))
theorem ef_prog_17_method_8_code_RR (m : MethodId) (x0 : Addr) (x1 : Addr) : entryFrame m #[(.ref x0), (.ref x1)] 2 = mkF m 0 #[.val (.ref x0), .val (.ref x1)] [] := by first | (simp [entryFrame, mkF, argsToLocals, Value.category]; done) | rfl
abbrev y20 : MethodName := ⟨"com/example/cistern/cistern/PoolState$Counters", "add", "(Lcom/example/cistern/cistern/PoolState$Counters;)V"⟩
set_option maxRecDepth 65536 in
set_option maxHeartbeats 40000000 in
theorem rmadd (l : Launch) (Z : State) (a0 : Array Value) (ns : Addr) (hG : Glob Z a0 ns) (ws : List Jvm.Cond) (a2 : Addr) (a3 : Addr) (c0 : Int64) (c1 : Int64) (c2 : Int64) (c3 : Int64) (c4 : Int64) (c5 : Int64) (c6 : Int64) (c7 : Int64) (c8 : Int64) (c9 : Int64) (d0 : Int64) (d1 : Int64) (d2 : Int64) (d3 : Int64) (d4 : Int64) (d5 : Int64) (d6 : Int64) (d7 : Int64) (d8 : Int64) (d9 : Int64) (h0 : Heap) (n0 : Nat) (Z0 : n0 ≤ h0.size) (X00 : Old Z n0 h0) (E_a2 : Exa Z h0 a2 "com/example/cistern/cistern/PoolState$Counters") (g_a2 : n0 ≤ a2) (ne_a3_a2 : a3 ≠ a2) (F_requestCount_a2 : Fld Z h0 a2 "com/example/cistern/cistern/PoolState$Counters" "requestCount" "J" (.long c0)) (F_requestNanos_a2 : Fld Z h0 a2 "com/example/cistern/cistern/PoolState$Counters" "requestNanos" "J" (.long c1)) (F_hadToWaitCount_a2 : Fld Z h0 a2 "com/example/cistern/cistern/PoolState$Counters" "hadToWaitCount" "J" (.long c2)) (F_waitNanos_a2 : Fld Z h0 a2 "com/example/cistern/cistern/PoolState$Counters" "waitNanos" "J" (.long c3)) (F_badConnectionCount_a2 : Fld Z h0 a2 "com/example/cistern/cistern/PoolState$Counters" "badConnectionCount" "J" (.long c4)) (F_claimedOverdueCount_a2 : Fld Z h0 a2 "com/example/cistern/cistern/PoolState$Counters" "claimedOverdueCount" "J" (.long c5)) (F_overdueCheckoutNanos_a2 : Fld Z h0 a2 "com/example/cistern/cistern/PoolState$Counters" "overdueCheckoutNanos" "J" (.long c6)) (F_checkoutCount_a2 : Fld Z h0 a2 "com/example/cistern/cistern/PoolState$Counters" "checkoutCount" "J" (.long c7)) (F_checkoutNanos_a2 : Fld Z h0 a2 "com/example/cistern/cistern/PoolState$Counters" "checkoutNanos" "J" (.long c8)) (F_connectionsOpened_a2 : Fld Z h0 a2 "com/example/cistern/cistern/PoolState$Counters" "connectionsOpened" "J" (.long c9)) (F_requestCount_a3 : Fld Z h0 a3 "com/example/cistern/cistern/PoolState$Counters" "requestCount" "J" (.long d0)) (F_requestNanos_a3 : Fld Z h0 a3 "com/example/cistern/cistern/PoolState$Counters" "requestNanos" "J" (.long d1)) (F_hadToWaitCount_a3 : Fld Z h0 a3 "com/example/cistern/cistern/PoolState$Counters" "hadToWaitCount" "J" (.long d2)) (F_waitNanos_a3 : Fld Z h0 a3 "com/example/cistern/cistern/PoolState$Counters" "waitNanos" "J" (.long d3)) (F_badConnectionCount_a3 : Fld Z h0 a3 "com/example/cistern/cistern/PoolState$Counters" "badConnectionCount" "J" (.long d4)) (F_claimedOverdueCount_a3 : Fld Z h0 a3 "com/example/cistern/cistern/PoolState$Counters" "claimedOverdueCount" "J" (.long d5)) (F_overdueCheckoutNanos_a3 : Fld Z h0 a3 "com/example/cistern/cistern/PoolState$Counters" "overdueCheckoutNanos" "J" (.long d6)) (F_checkoutCount_a3 : Fld Z h0 a3 "com/example/cistern/cistern/PoolState$Counters" "checkoutCount" "J" (.long d7)) (F_checkoutNanos_a3 : Fld Z h0 a3 "com/example/cistern/cistern/PoolState$Counters" "checkoutNanos" "J" (.long d8)) (F_connectionsOpened_a3 : Fld Z h0 a3 "com/example/cistern/cistern/PoolState$Counters" "connectionsOpened" "J" (.long d9)) :
    MetFree l y20 (head1 (Jvm.Cond.code y20 prog_17_method_8_code 2 none :: ws) ({ frames := 0, cells := 0, slots := 0, locals := 0 } : Room)) (fun a U => a = #[(.ref a2), (.ref a3)] ∧ Z.Warmed39 U.vm ∧ U.heap = h0) (fun _ _ _ _ _ => True) (fun _ U o U' => ∃ v L, o = .returned v ∧ Qadd Z ns a2 a3 c0 c1 c2 c3 c4 c5 c6 c7 c8 c9 d0 d1 d2 d3 d4 d5 d6 d7 d8 d9 h0 n0 v U'.heap L ∧ FrameEnd U o U' L ({ frames := 0, cells := 0, slots := 0, locals := 0 } : Room).cells ({ frames := 0, cells := 0, slots := 0, locals := 0 } : Room).slots) := by
  obtain ⟨hw, O_ns, O_ens, O_scale, O_ratio⟩ := id hG
  have W : ∀ (i : Nat) {d : Jvm.Cond}, tables_1[i]? = some d → d.before a0 Z = true := fun i d h => hw d (List.mem_of_getElem? h)
  refine MetFree.of_bodySF (plainFor_of_name pn_com_example_cistern_cistern_PoolState_Counters) hisR ?_
  intro p e s m args below meth c s₁ Bd hml0 hP hK
  obtain ⟨rfl, hZ, hh⟩ := hP
  have hx := Bd.exec
  have hby := Bd.bytes
  have hml : c.maxLocals = 2 := hml0
  have hown : s.vm.findClass "com/example/cistern/cistern/PoolState$Counters" = some m.cls := findClass_of_methodNamed Bd.named
  have hnm := (name_of_methodNamed Bd.named Bd.method).1
  have X0 : Stand p l e ({ frames := 0, cells := 0, slots := 0, locals := 0 } : Room) s m #[(.ref a2), (.ref a3)] below meth c s₁ [] 0 0 := Stand.of_body Bd
  have e0 : s₁.heap = h0 := by rw [← hh, Bd.state]; rfl
  have N0 := Fr.nil n0
  have pre0 : ∀ t, Steps p.tables e below (s₁.setTop (mkF m 0 #[.val (.ref a2), .val (.ref a3)] [])) t → Steps p.tables e below (s₁.setTop (entryFrame m #[(.ref a2), (.ref a3)] 2)) t := fun t kk_ => castTop (ef_prog_17_method_8_code_RR m a2 a3) kk_
  obtain ⟨T204, X204, e204, st204⟩ := getF X0 hx hZ hown (host := "") (Or.inl (W 27 rfl)) Via.refl e0 F_requestCount_a2 (g := (mkF m 2 #[.val (.ref a2), .val (.ref a3)] [(.ref a2), (.ref a2)])) rfl rfl (hb hby dx_prog_17_method_8_code_2)
  obtain ⟨T205, X205, e205, st205⟩ := getF X204 hx hZ hown (host := "") (Or.inl (W 27 rfl)) Via.refl e204 F_requestCount_a3 (g := (mkF m 6 #[.val (.ref a2), .val (.ref a3)] [(.ref a3), (.long c0), (.ref a2)])) rfl rfl (hb hby dx_prog_17_method_8_code_6)
  obtain ⟨T206, h206, X206, e206, W206, st206⟩ := putF X205 hx hZ hown (host := "") (Or.inl (W 27 rfl)) Via.refl e205 F_requestCount_a2 E_a2 (Or.inl (W 28 rfl)) (W 1 rfl) (ty := .long) (by decide) rfl rfl (g := (mkF m 10 #[.val (.ref a2), .val (.ref a3)] [(.long (c0 + d0)), (.ref a2)])) rfl rfl (hb hby dx_prog_17_method_8_code_10)
  have Fw206 := F_requestCount_a2.same W206
  have Z207 : n0 ≤ h206.size := Nat.le_trans Z0 (Keep.of_wr W206).1
  have K0_207 : Keep h0 h206 [a2] := (Keep.refl h0 [a2]).wr W206 (Or.inl (List.mem_of_getElem? (i := 0) rfl))
  have O207 : Old Z n0 h206 := X00.wr W206 g_a2
  have N206 := Fr.snoc X206 N0 g_a2
  have f208 := (F_requestNanos_a2.other W206 (Or.inr (slot_ne (Or.inl (W 30 rfl)) (Or.inl (W 28 rfl)) (by decide) (t := .long) (t' := .long) (by decide) (by decide))))
  obtain ⟨T209, X209, e209, st209⟩ := getF X206 hx hZ hown (host := "") (Or.inl (W 29 rfl)) Via.refl e206 f208 (g := (mkF m 15 #[.val (.ref a2), .val (.ref a3)] [(.ref a2), (.ref a2)])) rfl rfl (hb hby dx_prog_17_method_8_code_15)
  have f210 := (F_requestNanos_a3.other W206 (Or.inl ne_a3_a2))
  obtain ⟨T211, X211, e211, st211⟩ := getF X209 hx hZ hown (host := "") (Or.inl (W 29 rfl)) Via.refl e209 f210 (g := (mkF m 19 #[.val (.ref a2), .val (.ref a3)] [(.ref a3), (.long c1), (.ref a2)])) rfl rfl (hb hby dx_prog_17_method_8_code_19)
  have f212 := (E_a2.wr W206)
  obtain ⟨T213, h213, X213, e213, W213, st213⟩ := putF X211 hx hZ hown (host := "") (Or.inl (W 29 rfl)) Via.refl e211 f208 f212 (Or.inl (W 30 rfl)) (W 1 rfl) (ty := .long) (by decide) rfl rfl (g := (mkF m 23 #[.val (.ref a2), .val (.ref a3)] [(.long (c1 + d1)), (.ref a2)])) rfl rfl (hb hby dx_prog_17_method_8_code_23)
  have Fw213 := f208.same W213
  have Z214 : n0 ≤ h213.size := Nat.le_trans Z207 (Keep.of_wr W213).1
  have K0_214 : Keep h0 h213 [a2] := K0_207.wr W213 (Or.inl (List.mem_of_getElem? (i := 0) rfl))
  have O214 : Old Z n0 h213 := O207.wr W213 g_a2
  have N213 := Fr.snoc X213 N206 g_a2
  have f215 := ((F_hadToWaitCount_a2.other W206 (Or.inr (slot_ne (Or.inl (W 19 rfl)) (Or.inl (W 28 rfl)) (by decide) (t := .long) (t' := .long) (by decide) (by decide)))).other W213 (Or.inr (slot_ne (Or.inl (W 19 rfl)) (Or.inl (W 30 rfl)) (by decide) (t := .long) (t' := .long) (by decide) (by decide))))
  obtain ⟨T216, X216, e216, st216⟩ := getF X213 hx hZ hown (host := "") (Or.inl (W 18 rfl)) Via.refl e213 f215 (g := (mkF m 28 #[.val (.ref a2), .val (.ref a3)] [(.ref a2), (.ref a2)])) rfl rfl (hb hby dx_prog_17_method_8_code_28)
  have f217 := ((F_hadToWaitCount_a3.other W206 (Or.inl ne_a3_a2)).other W213 (Or.inl ne_a3_a2))
  obtain ⟨T218, X218, e218, st218⟩ := getF X216 hx hZ hown (host := "") (Or.inl (W 18 rfl)) Via.refl e216 f217 (g := (mkF m 32 #[.val (.ref a2), .val (.ref a3)] [(.ref a3), (.long c2), (.ref a2)])) rfl rfl (hb hby dx_prog_17_method_8_code_32)
  have f219 := (f212.wr W213)
  obtain ⟨T220, h220, X220, e220, W220, st220⟩ := putF X218 hx hZ hown (host := "") (Or.inl (W 18 rfl)) Via.refl e218 f215 f219 (Or.inl (W 19 rfl)) (W 1 rfl) (ty := .long) (by decide) rfl rfl (g := (mkF m 36 #[.val (.ref a2), .val (.ref a3)] [(.long (c2 + d2)), (.ref a2)])) rfl rfl (hb hby dx_prog_17_method_8_code_36)
  have Fw220 := f215.same W220
  have Z221 : n0 ≤ h220.size := Nat.le_trans Z214 (Keep.of_wr W220).1
  have K0_221 : Keep h0 h220 [a2] := K0_214.wr W220 (Or.inl (List.mem_of_getElem? (i := 0) rfl))
  have O221 : Old Z n0 h220 := O214.wr W220 g_a2
  have N220 := Fr.snoc X220 N213 g_a2
  have f222 := (((F_waitNanos_a2.other W206 (Or.inr (slot_ne (Or.inl (W 21 rfl)) (Or.inl (W 28 rfl)) (by decide) (t := .long) (t' := .long) (by decide) (by decide)))).other W213 (Or.inr (slot_ne (Or.inl (W 21 rfl)) (Or.inl (W 30 rfl)) (by decide) (t := .long) (t' := .long) (by decide) (by decide)))).other W220 (Or.inr (slot_ne (Or.inl (W 21 rfl)) (Or.inl (W 19 rfl)) (by decide) (t := .long) (t' := .long) (by decide) (by decide))))
  obtain ⟨T223, X223, e223, st223⟩ := getF X220 hx hZ hown (host := "") (Or.inl (W 20 rfl)) Via.refl e220 f222 (g := (mkF m 41 #[.val (.ref a2), .val (.ref a3)] [(.ref a2), (.ref a2)])) rfl rfl (hb hby dx_prog_17_method_8_code_41)
  have f224 := (((F_waitNanos_a3.other W206 (Or.inl ne_a3_a2)).other W213 (Or.inl ne_a3_a2)).other W220 (Or.inl ne_a3_a2))
  obtain ⟨T225, X225, e225, st225⟩ := getF X223 hx hZ hown (host := "") (Or.inl (W 20 rfl)) Via.refl e223 f224 (g := (mkF m 45 #[.val (.ref a2), .val (.ref a3)] [(.ref a3), (.long c3), (.ref a2)])) rfl rfl (hb hby dx_prog_17_method_8_code_45)
  have f226 := (f219.wr W220)
  obtain ⟨T227, h227, X227, e227, W227, st227⟩ := putF X225 hx hZ hown (host := "") (Or.inl (W 20 rfl)) Via.refl e225 f222 f226 (Or.inl (W 21 rfl)) (W 1 rfl) (ty := .long) (by decide) rfl rfl (g := (mkF m 49 #[.val (.ref a2), .val (.ref a3)] [(.long (c3 + d3)), (.ref a2)])) rfl rfl (hb hby dx_prog_17_method_8_code_49)
  have Fw227 := f222.same W227
  have Z228 : n0 ≤ h227.size := Nat.le_trans Z221 (Keep.of_wr W227).1
  have K0_228 : Keep h0 h227 [a2] := K0_221.wr W227 (Or.inl (List.mem_of_getElem? (i := 0) rfl))
  have O228 : Old Z n0 h227 := O221.wr W227 g_a2
  have N227 := Fr.snoc X227 N220 g_a2
  have f229 := ((((F_badConnectionCount_a2.other W206 (Or.inr (slot_ne (Or.inl (W 32 rfl)) (Or.inl (W 28 rfl)) (by decide) (t := .long) (t' := .long) (by decide) (by decide)))).other W213 (Or.inr (slot_ne (Or.inl (W 32 rfl)) (Or.inl (W 30 rfl)) (by decide) (t := .long) (t' := .long) (by decide) (by decide)))).other W220 (Or.inr (slot_ne (Or.inl (W 32 rfl)) (Or.inl (W 19 rfl)) (by decide) (t := .long) (t' := .long) (by decide) (by decide)))).other W227 (Or.inr (slot_ne (Or.inl (W 32 rfl)) (Or.inl (W 21 rfl)) (by decide) (t := .long) (t' := .long) (by decide) (by decide))))
  obtain ⟨T230, X230, e230, st230⟩ := getF X227 hx hZ hown (host := "") (Or.inl (W 31 rfl)) Via.refl e227 f229 (g := (mkF m 54 #[.val (.ref a2), .val (.ref a3)] [(.ref a2), (.ref a2)])) rfl rfl (hb hby dx_prog_17_method_8_code_54)
  have f231 := ((((F_badConnectionCount_a3.other W206 (Or.inl ne_a3_a2)).other W213 (Or.inl ne_a3_a2)).other W220 (Or.inl ne_a3_a2)).other W227 (Or.inl ne_a3_a2))
  obtain ⟨T232, X232, e232, st232⟩ := getF X230 hx hZ hown (host := "") (Or.inl (W 31 rfl)) Via.refl e230 f231 (g := (mkF m 58 #[.val (.ref a2), .val (.ref a3)] [(.ref a3), (.long c4), (.ref a2)])) rfl rfl (hb hby dx_prog_17_method_8_code_58)
  have f233 := (f226.wr W227)
  obtain ⟨T234, h234, X234, e234, W234, st234⟩ := putF X232 hx hZ hown (host := "") (Or.inl (W 31 rfl)) Via.refl e232 f229 f233 (Or.inl (W 32 rfl)) (W 1 rfl) (ty := .long) (by decide) rfl rfl (g := (mkF m 62 #[.val (.ref a2), .val (.ref a3)] [(.long (c4 + d4)), (.ref a2)])) rfl rfl (hb hby dx_prog_17_method_8_code_62)
  have Fw234 := f229.same W234
  have Z235 : n0 ≤ h234.size := Nat.le_trans Z228 (Keep.of_wr W234).1
  have K0_235 : Keep h0 h234 [a2] := K0_228.wr W234 (Or.inl (List.mem_of_getElem? (i := 0) rfl))
  have O235 : Old Z n0 h234 := O228.wr W234 g_a2
  have N234 := Fr.snoc X234 N227 g_a2
  have f236 := (((((F_claimedOverdueCount_a2.other W206 (Or.inr (slot_ne (Or.inl (W 34 rfl)) (Or.inl (W 28 rfl)) (by decide) (t := .long) (t' := .long) (by decide) (by decide)))).other W213 (Or.inr (slot_ne (Or.inl (W 34 rfl)) (Or.inl (W 30 rfl)) (by decide) (t := .long) (t' := .long) (by decide) (by decide)))).other W220 (Or.inr (slot_ne (Or.inl (W 34 rfl)) (Or.inl (W 19 rfl)) (by decide) (t := .long) (t' := .long) (by decide) (by decide)))).other W227 (Or.inr (slot_ne (Or.inl (W 34 rfl)) (Or.inl (W 21 rfl)) (by decide) (t := .long) (t' := .long) (by decide) (by decide)))).other W234 (Or.inr (slot_ne (Or.inl (W 34 rfl)) (Or.inl (W 32 rfl)) (by decide) (t := .long) (t' := .long) (by decide) (by decide))))
  obtain ⟨T237, X237, e237, st237⟩ := getF X234 hx hZ hown (host := "") (Or.inl (W 33 rfl)) Via.refl e234 f236 (g := (mkF m 67 #[.val (.ref a2), .val (.ref a3)] [(.ref a2), (.ref a2)])) rfl rfl (hb hby dx_prog_17_method_8_code_67)
  have f238 := (((((F_claimedOverdueCount_a3.other W206 (Or.inl ne_a3_a2)).other W213 (Or.inl ne_a3_a2)).other W220 (Or.inl ne_a3_a2)).other W227 (Or.inl ne_a3_a2)).other W234 (Or.inl ne_a3_a2))
  obtain ⟨T239, X239, e239, st239⟩ := getF X237 hx hZ hown (host := "") (Or.inl (W 33 rfl)) Via.refl e237 f238 (g := (mkF m 71 #[.val (.ref a2), .val (.ref a3)] [(.ref a3), (.long c5), (.ref a2)])) rfl rfl (hb hby dx_prog_17_method_8_code_71)
  have f240 := (f233.wr W234)
  obtain ⟨T241, h241, X241, e241, W241, st241⟩ := putF X239 hx hZ hown (host := "") (Or.inl (W 33 rfl)) Via.refl e239 f236 f240 (Or.inl (W 34 rfl)) (W 1 rfl) (ty := .long) (by decide) rfl rfl (g := (mkF m 75 #[.val (.ref a2), .val (.ref a3)] [(.long (c5 + d5)), (.ref a2)])) rfl rfl (hb hby dx_prog_17_method_8_code_75)
  have Fw241 := f236.same W241
  have Z242 : n0 ≤ h241.size := Nat.le_trans Z235 (Keep.of_wr W241).1
  have K0_242 : Keep h0 h241 [a2] := K0_235.wr W241 (Or.inl (List.mem_of_getElem? (i := 0) rfl))
  have O242 : Old Z n0 h241 := O235.wr W241 g_a2
  have N241 := Fr.snoc X241 N234 g_a2
  have f243 := ((((((F_overdueCheckoutNanos_a2.other W206 (Or.inr (slot_ne (Or.inl (W 36 rfl)) (Or.inl (W 28 rfl)) (by decide) (t := .long) (t' := .long) (by decide) (by decide)))).other W213 (Or.inr (slot_ne (Or.inl (W 36 rfl)) (Or.inl (W 30 rfl)) (by decide) (t := .long) (t' := .long) (by decide) (by decide)))).other W220 (Or.inr (slot_ne (Or.inl (W 36 rfl)) (Or.inl (W 19 rfl)) (by decide) (t := .long) (t' := .long) (by decide) (by decide)))).other W227 (Or.inr (slot_ne (Or.inl (W 36 rfl)) (Or.inl (W 21 rfl)) (by decide) (t := .long) (t' := .long) (by decide) (by decide)))).other W234 (Or.inr (slot_ne (Or.inl (W 36 rfl)) (Or.inl (W 32 rfl)) (by decide) (t := .long) (t' := .long) (by decide) (by decide)))).other W241 (Or.inr (slot_ne (Or.inl (W 36 rfl)) (Or.inl (W 34 rfl)) (by decide) (t := .long) (t' := .long) (by decide) (by decide))))
  obtain ⟨T244, X244, e244, st244⟩ := getF X241 hx hZ hown (host := "") (Or.inl (W 35 rfl)) Via.refl e241 f243 (g := (mkF m 80 #[.val (.ref a2), .val (.ref a3)] [(.ref a2), (.ref a2)])) rfl rfl (hb hby dx_prog_17_method_8_code_80)
  have f245 := ((((((F_overdueCheckoutNanos_a3.other W206 (Or.inl ne_a3_a2)).other W213 (Or.inl ne_a3_a2)).other W220 (Or.inl ne_a3_a2)).other W227 (Or.inl ne_a3_a2)).other W234 (Or.inl ne_a3_a2)).other W241 (Or.inl ne_a3_a2))
  obtain ⟨T246, X246, e246, st246⟩ := getF X244 hx hZ hown (host := "") (Or.inl (W 35 rfl)) Via.refl e244 f245 (g := (mkF m 84 #[.val (.ref a2), .val (.ref a3)] [(.ref a3), (.long c6), (.ref a2)])) rfl rfl (hb hby dx_prog_17_method_8_code_84)
  have f247 := (f240.wr W241)
  obtain ⟨T248, h248, X248, e248, W248, st248⟩ := putF X246 hx hZ hown (host := "") (Or.inl (W 35 rfl)) Via.refl e246 f243 f247 (Or.inl (W 36 rfl)) (W 1 rfl) (ty := .long) (by decide) rfl rfl (g := (mkF m 88 #[.val (.ref a2), .val (.ref a3)] [(.long (c6 + d6)), (.ref a2)])) rfl rfl (hb hby dx_prog_17_method_8_code_88)
  have Fw248 := f243.same W248
  have Z249 : n0 ≤ h248.size := Nat.le_trans Z242 (Keep.of_wr W248).1
  have K0_249 : Keep h0 h248 [a2] := K0_242.wr W248 (Or.inl (List.mem_of_getElem? (i := 0) rfl))
  have O249 : Old Z n0 h248 := O242.wr W248 g_a2
  have N248 := Fr.snoc X248 N241 g_a2
  have f250 := (((((((F_checkoutCount_a2.other W206 (Or.inr (slot_ne (Or.inl (W 38 rfl)) (Or.inl (W 28 rfl)) (by decide) (t := .long) (t' := .long) (by decide) (by decide)))).other W213 (Or.inr (slot_ne (Or.inl (W 38 rfl)) (Or.inl (W 30 rfl)) (by decide) (t := .long) (t' := .long) (by decide) (by decide)))).other W220 (Or.inr (slot_ne (Or.inl (W 38 rfl)) (Or.inl (W 19 rfl)) (by decide) (t := .long) (t' := .long) (by decide) (by decide)))).other W227 (Or.inr (slot_ne (Or.inl (W 38 rfl)) (Or.inl (W 21 rfl)) (by decide) (t := .long) (t' := .long) (by decide) (by decide)))).other W234 (Or.inr (slot_ne (Or.inl (W 38 rfl)) (Or.inl (W 32 rfl)) (by decide) (t := .long) (t' := .long) (by decide) (by decide)))).other W241 (Or.inr (slot_ne (Or.inl (W 38 rfl)) (Or.inl (W 34 rfl)) (by decide) (t := .long) (t' := .long) (by decide) (by decide)))).other W248 (Or.inr (slot_ne (Or.inl (W 38 rfl)) (Or.inl (W 36 rfl)) (by decide) (t := .long) (t' := .long) (by decide) (by decide))))
  obtain ⟨T251, X251, e251, st251⟩ := getF X248 hx hZ hown (host := "") (Or.inl (W 37 rfl)) Via.refl e248 f250 (g := (mkF m 93 #[.val (.ref a2), .val (.ref a3)] [(.ref a2), (.ref a2)])) rfl rfl (hb hby dx_prog_17_method_8_code_93)
  have f252 := (((((((F_checkoutCount_a3.other W206 (Or.inl ne_a3_a2)).other W213 (Or.inl ne_a3_a2)).other W220 (Or.inl ne_a3_a2)).other W227 (Or.inl ne_a3_a2)).other W234 (Or.inl ne_a3_a2)).other W241 (Or.inl ne_a3_a2)).other W248 (Or.inl ne_a3_a2))
  obtain ⟨T253, X253, e253, st253⟩ := getF X251 hx hZ hown (host := "") (Or.inl (W 37 rfl)) Via.refl e251 f252 (g := (mkF m 97 #[.val (.ref a2), .val (.ref a3)] [(.ref a3), (.long c7), (.ref a2)])) rfl rfl (hb hby dx_prog_17_method_8_code_97)
  have f254 := (f247.wr W248)
  obtain ⟨T255, h255, X255, e255, W255, st255⟩ := putF X253 hx hZ hown (host := "") (Or.inl (W 37 rfl)) Via.refl e253 f250 f254 (Or.inl (W 38 rfl)) (W 1 rfl) (ty := .long) (by decide) rfl rfl (g := (mkF m 101 #[.val (.ref a2), .val (.ref a3)] [(.long (c7 + d7)), (.ref a2)])) rfl rfl (hb hby dx_prog_17_method_8_code_101)
  have Fw255 := f250.same W255
  have Z256 : n0 ≤ h255.size := Nat.le_trans Z249 (Keep.of_wr W255).1
  have K0_256 : Keep h0 h255 [a2] := K0_249.wr W255 (Or.inl (List.mem_of_getElem? (i := 0) rfl))
  have O256 : Old Z n0 h255 := O249.wr W255 g_a2
  have N255 := Fr.snoc X255 N248 g_a2
  have f257 := ((((((((F_checkoutNanos_a2.other W206 (Or.inr (slot_ne (Or.inl (W 40 rfl)) (Or.inl (W 28 rfl)) (by decide) (t := .long) (t' := .long) (by decide) (by decide)))).other W213 (Or.inr (slot_ne (Or.inl (W 40 rfl)) (Or.inl (W 30 rfl)) (by decide) (t := .long) (t' := .long) (by decide) (by decide)))).other W220 (Or.inr (slot_ne (Or.inl (W 40 rfl)) (Or.inl (W 19 rfl)) (by decide) (t := .long) (t' := .long) (by decide) (by decide)))).other W227 (Or.inr (slot_ne (Or.inl (W 40 rfl)) (Or.inl (W 21 rfl)) (by decide) (t := .long) (t' := .long) (by decide) (by decide)))).other W234 (Or.inr (slot_ne (Or.inl (W 40 rfl)) (Or.inl (W 32 rfl)) (by decide) (t := .long) (t' := .long) (by decide) (by decide)))).other W241 (Or.inr (slot_ne (Or.inl (W 40 rfl)) (Or.inl (W 34 rfl)) (by decide) (t := .long) (t' := .long) (by decide) (by decide)))).other W248 (Or.inr (slot_ne (Or.inl (W 40 rfl)) (Or.inl (W 36 rfl)) (by decide) (t := .long) (t' := .long) (by decide) (by decide)))).other W255 (Or.inr (slot_ne (Or.inl (W 40 rfl)) (Or.inl (W 38 rfl)) (by decide) (t := .long) (t' := .long) (by decide) (by decide))))
  obtain ⟨T258, X258, e258, st258⟩ := getF X255 hx hZ hown (host := "") (Or.inl (W 39 rfl)) Via.refl e255 f257 (g := (mkF m 106 #[.val (.ref a2), .val (.ref a3)] [(.ref a2), (.ref a2)])) rfl rfl (hb hby dx_prog_17_method_8_code_106)
  have f259 := ((((((((F_checkoutNanos_a3.other W206 (Or.inl ne_a3_a2)).other W213 (Or.inl ne_a3_a2)).other W220 (Or.inl ne_a3_a2)).other W227 (Or.inl ne_a3_a2)).other W234 (Or.inl ne_a3_a2)).other W241 (Or.inl ne_a3_a2)).other W248 (Or.inl ne_a3_a2)).other W255 (Or.inl ne_a3_a2))
  obtain ⟨T260, X260, e260, st260⟩ := getF X258 hx hZ hown (host := "") (Or.inl (W 39 rfl)) Via.refl e258 f259 (g := (mkF m 110 #[.val (.ref a2), .val (.ref a3)] [(.ref a3), (.long c8), (.ref a2)])) rfl rfl (hb hby dx_prog_17_method_8_code_110)
  have f261 := (f254.wr W255)
  obtain ⟨T262, h262, X262, e262, W262, st262⟩ := putF X260 hx hZ hown (host := "") (Or.inl (W 39 rfl)) Via.refl e260 f257 f261 (Or.inl (W 40 rfl)) (W 1 rfl) (ty := .long) (by decide) rfl rfl (g := (mkF m 114 #[.val (.ref a2), .val (.ref a3)] [(.long (c8 + d8)), (.ref a2)])) rfl rfl (hb hby dx_prog_17_method_8_code_114)
  have Fw262 := f257.same W262
  have Z263 : n0 ≤ h262.size := Nat.le_trans Z256 (Keep.of_wr W262).1
  have K0_263 : Keep h0 h262 [a2] := K0_256.wr W262 (Or.inl (List.mem_of_getElem? (i := 0) rfl))
  have O263 : Old Z n0 h262 := O256.wr W262 g_a2
  have N262 := Fr.snoc X262 N255 g_a2
  have f264 := (((((((((F_connectionsOpened_a2.other W206 (Or.inr (slot_ne (Or.inl (W 42 rfl)) (Or.inl (W 28 rfl)) (by decide) (t := .long) (t' := .long) (by decide) (by decide)))).other W213 (Or.inr (slot_ne (Or.inl (W 42 rfl)) (Or.inl (W 30 rfl)) (by decide) (t := .long) (t' := .long) (by decide) (by decide)))).other W220 (Or.inr (slot_ne (Or.inl (W 42 rfl)) (Or.inl (W 19 rfl)) (by decide) (t := .long) (t' := .long) (by decide) (by decide)))).other W227 (Or.inr (slot_ne (Or.inl (W 42 rfl)) (Or.inl (W 21 rfl)) (by decide) (t := .long) (t' := .long) (by decide) (by decide)))).other W234 (Or.inr (slot_ne (Or.inl (W 42 rfl)) (Or.inl (W 32 rfl)) (by decide) (t := .long) (t' := .long) (by decide) (by decide)))).other W241 (Or.inr (slot_ne (Or.inl (W 42 rfl)) (Or.inl (W 34 rfl)) (by decide) (t := .long) (t' := .long) (by decide) (by decide)))).other W248 (Or.inr (slot_ne (Or.inl (W 42 rfl)) (Or.inl (W 36 rfl)) (by decide) (t := .long) (t' := .long) (by decide) (by decide)))).other W255 (Or.inr (slot_ne (Or.inl (W 42 rfl)) (Or.inl (W 38 rfl)) (by decide) (t := .long) (t' := .long) (by decide) (by decide)))).other W262 (Or.inr (slot_ne (Or.inl (W 42 rfl)) (Or.inl (W 40 rfl)) (by decide) (t := .long) (t' := .long) (by decide) (by decide))))
  obtain ⟨T265, X265, e265, st265⟩ := getF X262 hx hZ hown (host := "") (Or.inl (W 41 rfl)) Via.refl e262 f264 (g := (mkF m 119 #[.val (.ref a2), .val (.ref a3)] [(.ref a2), (.ref a2)])) rfl rfl (hb hby dx_prog_17_method_8_code_119)
  have f266 := (((((((((F_connectionsOpened_a3.other W206 (Or.inl ne_a3_a2)).other W213 (Or.inl ne_a3_a2)).other W220 (Or.inl ne_a3_a2)).other W227 (Or.inl ne_a3_a2)).other W234 (Or.inl ne_a3_a2)).other W241 (Or.inl ne_a3_a2)).other W248 (Or.inl ne_a3_a2)).other W255 (Or.inl ne_a3_a2)).other W262 (Or.inl ne_a3_a2))
  obtain ⟨T267, X267, e267, st267⟩ := getF X265 hx hZ hown (host := "") (Or.inl (W 41 rfl)) Via.refl e265 f266 (g := (mkF m 123 #[.val (.ref a2), .val (.ref a3)] [(.ref a3), (.long c9), (.ref a2)])) rfl rfl (hb hby dx_prog_17_method_8_code_123)
  have f268 := (f261.wr W262)
  obtain ⟨T269, h269, X269, e269, W269, st269⟩ := putF X267 hx hZ hown (host := "") (Or.inl (W 41 rfl)) Via.refl e267 f264 f268 (Or.inl (W 42 rfl)) (W 1 rfl) (ty := .long) (by decide) rfl rfl (g := (mkF m 127 #[.val (.ref a2), .val (.ref a3)] [(.long (c9 + d9)), (.ref a2)])) rfl rfl (hb hby dx_prog_17_method_8_code_127)
  have Fw269 := f264.same W269
  have Z270 : n0 ≤ h269.size := Nat.le_trans Z263 (Keep.of_wr W269).1
  have K0_270 : Keep h0 h269 [a2] := K0_263.wr W269 (Or.inl (List.mem_of_getElem? (i := 0) rfl))
  have O270 : Old Z n0 h269 := O263.wr W269 g_a2
  have N269 := Fr.snoc X269 N262 g_a2
  have f271 := (f268.wr W269)
  have f272 := (((((((((Fw206.other W213 (Or.inr (slot_ne (Or.inl (W 28 rfl)) (Or.inl (W 30 rfl)) (by decide) (t := .long) (t' := .long) (by decide) (by decide)))).other W220 (Or.inr (slot_ne (Or.inl (W 28 rfl)) (Or.inl (W 19 rfl)) (by decide) (t := .long) (t' := .long) (by decide) (by decide)))).other W227 (Or.inr (slot_ne (Or.inl (W 28 rfl)) (Or.inl (W 21 rfl)) (by decide) (t := .long) (t' := .long) (by decide) (by decide)))).other W234 (Or.inr (slot_ne (Or.inl (W 28 rfl)) (Or.inl (W 32 rfl)) (by decide) (t := .long) (t' := .long) (by decide) (by decide)))).other W241 (Or.inr (slot_ne (Or.inl (W 28 rfl)) (Or.inl (W 34 rfl)) (by decide) (t := .long) (t' := .long) (by decide) (by decide)))).other W248 (Or.inr (slot_ne (Or.inl (W 28 rfl)) (Or.inl (W 36 rfl)) (by decide) (t := .long) (t' := .long) (by decide) (by decide)))).other W255 (Or.inr (slot_ne (Or.inl (W 28 rfl)) (Or.inl (W 38 rfl)) (by decide) (t := .long) (t' := .long) (by decide) (by decide)))).other W262 (Or.inr (slot_ne (Or.inl (W 28 rfl)) (Or.inl (W 40 rfl)) (by decide) (t := .long) (t' := .long) (by decide) (by decide)))).other W269 (Or.inr (slot_ne (Or.inl (W 28 rfl)) (Or.inl (W 42 rfl)) (by decide) (t := .long) (t' := .long) (by decide) (by decide))))
  have f273 := ((((((((Fw213.other W220 (Or.inr (slot_ne (Or.inl (W 30 rfl)) (Or.inl (W 19 rfl)) (by decide) (t := .long) (t' := .long) (by decide) (by decide)))).other W227 (Or.inr (slot_ne (Or.inl (W 30 rfl)) (Or.inl (W 21 rfl)) (by decide) (t := .long) (t' := .long) (by decide) (by decide)))).other W234 (Or.inr (slot_ne (Or.inl (W 30 rfl)) (Or.inl (W 32 rfl)) (by decide) (t := .long) (t' := .long) (by decide) (by decide)))).other W241 (Or.inr (slot_ne (Or.inl (W 30 rfl)) (Or.inl (W 34 rfl)) (by decide) (t := .long) (t' := .long) (by decide) (by decide)))).other W248 (Or.inr (slot_ne (Or.inl (W 30 rfl)) (Or.inl (W 36 rfl)) (by decide) (t := .long) (t' := .long) (by decide) (by decide)))).other W255 (Or.inr (slot_ne (Or.inl (W 30 rfl)) (Or.inl (W 38 rfl)) (by decide) (t := .long) (t' := .long) (by decide) (by decide)))).other W262 (Or.inr (slot_ne (Or.inl (W 30 rfl)) (Or.inl (W 40 rfl)) (by decide) (t := .long) (t' := .long) (by decide) (by decide)))).other W269 (Or.inr (slot_ne (Or.inl (W 30 rfl)) (Or.inl (W 42 rfl)) (by decide) (t := .long) (t' := .long) (by decide) (by decide))))
  have f274 := (((((((Fw220.other W227 (Or.inr (slot_ne (Or.inl (W 19 rfl)) (Or.inl (W 21 rfl)) (by decide) (t := .long) (t' := .long) (by decide) (by decide)))).other W234 (Or.inr (slot_ne (Or.inl (W 19 rfl)) (Or.inl (W 32 rfl)) (by decide) (t := .long) (t' := .long) (by decide) (by decide)))).other W241 (Or.inr (slot_ne (Or.inl (W 19 rfl)) (Or.inl (W 34 rfl)) (by decide) (t := .long) (t' := .long) (by decide) (by decide)))).other W248 (Or.inr (slot_ne (Or.inl (W 19 rfl)) (Or.inl (W 36 rfl)) (by decide) (t := .long) (t' := .long) (by decide) (by decide)))).other W255 (Or.inr (slot_ne (Or.inl (W 19 rfl)) (Or.inl (W 38 rfl)) (by decide) (t := .long) (t' := .long) (by decide) (by decide)))).other W262 (Or.inr (slot_ne (Or.inl (W 19 rfl)) (Or.inl (W 40 rfl)) (by decide) (t := .long) (t' := .long) (by decide) (by decide)))).other W269 (Or.inr (slot_ne (Or.inl (W 19 rfl)) (Or.inl (W 42 rfl)) (by decide) (t := .long) (t' := .long) (by decide) (by decide))))
  have f275 := ((((((Fw227.other W234 (Or.inr (slot_ne (Or.inl (W 21 rfl)) (Or.inl (W 32 rfl)) (by decide) (t := .long) (t' := .long) (by decide) (by decide)))).other W241 (Or.inr (slot_ne (Or.inl (W 21 rfl)) (Or.inl (W 34 rfl)) (by decide) (t := .long) (t' := .long) (by decide) (by decide)))).other W248 (Or.inr (slot_ne (Or.inl (W 21 rfl)) (Or.inl (W 36 rfl)) (by decide) (t := .long) (t' := .long) (by decide) (by decide)))).other W255 (Or.inr (slot_ne (Or.inl (W 21 rfl)) (Or.inl (W 38 rfl)) (by decide) (t := .long) (t' := .long) (by decide) (by decide)))).other W262 (Or.inr (slot_ne (Or.inl (W 21 rfl)) (Or.inl (W 40 rfl)) (by decide) (t := .long) (t' := .long) (by decide) (by decide)))).other W269 (Or.inr (slot_ne (Or.inl (W 21 rfl)) (Or.inl (W 42 rfl)) (by decide) (t := .long) (t' := .long) (by decide) (by decide))))
  have f276 := (((((Fw234.other W241 (Or.inr (slot_ne (Or.inl (W 32 rfl)) (Or.inl (W 34 rfl)) (by decide) (t := .long) (t' := .long) (by decide) (by decide)))).other W248 (Or.inr (slot_ne (Or.inl (W 32 rfl)) (Or.inl (W 36 rfl)) (by decide) (t := .long) (t' := .long) (by decide) (by decide)))).other W255 (Or.inr (slot_ne (Or.inl (W 32 rfl)) (Or.inl (W 38 rfl)) (by decide) (t := .long) (t' := .long) (by decide) (by decide)))).other W262 (Or.inr (slot_ne (Or.inl (W 32 rfl)) (Or.inl (W 40 rfl)) (by decide) (t := .long) (t' := .long) (by decide) (by decide)))).other W269 (Or.inr (slot_ne (Or.inl (W 32 rfl)) (Or.inl (W 42 rfl)) (by decide) (t := .long) (t' := .long) (by decide) (by decide))))
  have f277 := ((((Fw241.other W248 (Or.inr (slot_ne (Or.inl (W 34 rfl)) (Or.inl (W 36 rfl)) (by decide) (t := .long) (t' := .long) (by decide) (by decide)))).other W255 (Or.inr (slot_ne (Or.inl (W 34 rfl)) (Or.inl (W 38 rfl)) (by decide) (t := .long) (t' := .long) (by decide) (by decide)))).other W262 (Or.inr (slot_ne (Or.inl (W 34 rfl)) (Or.inl (W 40 rfl)) (by decide) (t := .long) (t' := .long) (by decide) (by decide)))).other W269 (Or.inr (slot_ne (Or.inl (W 34 rfl)) (Or.inl (W 42 rfl)) (by decide) (t := .long) (t' := .long) (by decide) (by decide))))
  have f278 := (((Fw248.other W255 (Or.inr (slot_ne (Or.inl (W 36 rfl)) (Or.inl (W 38 rfl)) (by decide) (t := .long) (t' := .long) (by decide) (by decide)))).other W262 (Or.inr (slot_ne (Or.inl (W 36 rfl)) (Or.inl (W 40 rfl)) (by decide) (t := .long) (t' := .long) (by decide) (by decide)))).other W269 (Or.inr (slot_ne (Or.inl (W 36 rfl)) (Or.inl (W 42 rfl)) (by decide) (t := .long) (t' := .long) (by decide) (by decide))))
  have f279 := ((Fw255.other W262 (Or.inr (slot_ne (Or.inl (W 38 rfl)) (Or.inl (W 40 rfl)) (by decide) (t := .long) (t' := .long) (by decide) (by decide)))).other W269 (Or.inr (slot_ne (Or.inl (W 38 rfl)) (Or.inl (W 42 rfl)) (by decide) (t := .long) (t' := .long) (by decide) (by decide))))
  have f280 := (Fw262.other W269 (Or.inr (slot_ne (Or.inl (W 40 rfl)) (Or.inl (W 42 rfl)) (by decide) (t := .long) (t' := .long) (by decide) (by decide))))
  obtain ⟨fs, hr, hrun, hended, hW, hsame⟩ := X269.leave (v := none) (fun _ => rfl)
  refine ⟨_, _, pre0 _ ?_, hrun, hended, _, _, rfl, ?_, ⟨_, rfl⟩, hW, hsame.mono (Nat.le_of_ble_eq_true rfl) (Nat.le_of_ble_eq_true rfl)⟩
  · show Steps p.tables e below (s₁.setTop (mkF m 0 #[.val (.ref a2), .val (.ref a3)] [])) _
    refine XS.aloadN X0.here hx rfl (hb hby dx_prog_17_method_8_code_0) rfl rfl ?_
    show Steps p.tables e below (s₁.setTop (mkF m 1 #[.val (.ref a2), .val (.ref a3)] [(.ref a2)])) _
    refine XS.dup X0.here hx rfl (hb hby dx_prog_17_method_8_code_1) rfl rfl ?_
    show Steps p.tables e below (s₁.setTop (mkF m 2 #[.val (.ref a2), .val (.ref a3)] [(.ref a2), (.ref a2)])) _
    refine st204 _ ?_
    show Steps p.tables e below (T204.setTop (mkF m 5 #[.val (.ref a2), .val (.ref a3)] [(.long c0), (.ref a2)])) _
    refine XS.aloadN X204.here hx rfl (hb hby dx_prog_17_method_8_code_5) rfl rfl ?_
    show Steps p.tables e below (T204.setTop (mkF m 6 #[.val (.ref a2), .val (.ref a3)] [(.ref a3), (.long c0), (.ref a2)])) _
    refine st205 _ ?_
    show Steps p.tables e below (T205.setTop (mkF m 9 #[.val (.ref a2), .val (.ref a3)] [(.long d0), (.long c0), (.ref a2)])) _
    refine XS.ladd X205.here hx rfl (hb hby dx_prog_17_method_8_code_9) rfl ?_
    show Steps p.tables e below (T205.setTop (mkF m 10 #[.val (.ref a2), .val (.ref a3)] [(.long (c0 + d0)), (.ref a2)])) _
    refine st206 _ ?_
    show Steps p.tables e below (T206.setTop (mkF m 13 #[.val (.ref a2), .val (.ref a3)] [])) _
    refine XS.aloadN X206.here hx rfl (hb hby dx_prog_17_method_8_code_13) rfl rfl ?_
    show Steps p.tables e below (T206.setTop (mkF m 14 #[.val (.ref a2), .val (.ref a3)] [(.ref a2)])) _
    refine XS.dup X206.here hx rfl (hb hby dx_prog_17_method_8_code_14) rfl rfl ?_
    show Steps p.tables e below (T206.setTop (mkF m 15 #[.val (.ref a2), .val (.ref a3)] [(.ref a2), (.ref a2)])) _
    refine st209 _ ?_
    show Steps p.tables e below (T209.setTop (mkF m 18 #[.val (.ref a2), .val (.ref a3)] [(.long c1), (.ref a2)])) _
    refine XS.aloadN X209.here hx rfl (hb hby dx_prog_17_method_8_code_18) rfl rfl ?_
    show Steps p.tables e below (T209.setTop (mkF m 19 #[.val (.ref a2), .val (.ref a3)] [(.ref a3), (.long c1), (.ref a2)])) _
    refine st211 _ ?_
    show Steps p.tables e below (T211.setTop (mkF m 22 #[.val (.ref a2), .val (.ref a3)] [(.long d1), (.long c1), (.ref a2)])) _
    refine XS.ladd X211.here hx rfl (hb hby dx_prog_17_method_8_code_22) rfl ?_
    show Steps p.tables e below (T211.setTop (mkF m 23 #[.val (.ref a2), .val (.ref a3)] [(.long (c1 + d1)), (.ref a2)])) _
    refine st213 _ ?_
    show Steps p.tables e below (T213.setTop (mkF m 26 #[.val (.ref a2), .val (.ref a3)] [])) _
    refine XS.aloadN X213.here hx rfl (hb hby dx_prog_17_method_8_code_26) rfl rfl ?_
    show Steps p.tables e below (T213.setTop (mkF m 27 #[.val (.ref a2), .val (.ref a3)] [(.ref a2)])) _
    refine XS.dup X213.here hx rfl (hb hby dx_prog_17_method_8_code_27) rfl rfl ?_
    show Steps p.tables e below (T213.setTop (mkF m 28 #[.val (.ref a2), .val (.ref a3)] [(.ref a2), (.ref a2)])) _
    refine st216 _ ?_
    show Steps p.tables e below (T216.setTop (mkF m 31 #[.val (.ref a2), .val (.ref a3)] [(.long c2), (.ref a2)])) _
    refine XS.aloadN X216.here hx rfl (hb hby dx_prog_17_method_8_code_31) rfl rfl ?_
    show Steps p.tables e below (T216.setTop (mkF m 32 #[.val (.ref a2), .val (.ref a3)] [(.ref a3), (.long c2), (.ref a2)])) _
    refine st218 _ ?_
    show Steps p.tables e below (T218.setTop (mkF m 35 #[.val (.ref a2), .val (.ref a3)] [(.long d2), (.long c2), (.ref a2)])) _
    refine XS.ladd X218.here hx rfl (hb hby dx_prog_17_method_8_code_35) rfl ?_
    show Steps p.tables e below (T218.setTop (mkF m 36 #[.val (.ref a2), .val (.ref a3)] [(.long (c2 + d2)), (.ref a2)])) _
    refine st220 _ ?_
    show Steps p.tables e below (T220.setTop (mkF m 39 #[.val (.ref a2), .val (.ref a3)] [])) _
    refine XS.aloadN X220.here hx rfl (hb hby dx_prog_17_method_8_code_39) rfl rfl ?_
    show Steps p.tables e below (T220.setTop (mkF m 40 #[.val (.ref a2), .val (.ref a3)] [(.ref a2)])) _
    refine XS.dup X220.here hx rfl (hb hby dx_prog_17_method_8_code_40) rfl rfl ?_
    show Steps p.tables e below (T220.setTop (mkF m 41 #[.val (.ref a2), .val (.ref a3)] [(.ref a2), (.ref a2)])) _
    refine st223 _ ?_
    show Steps p.tables e below (T223.setTop (mkF m 44 #[.val (.ref a2), .val (.ref a3)] [(.long c3), (.ref a2)])) _
    refine XS.aloadN X223.here hx rfl (hb hby dx_prog_17_method_8_code_44) rfl rfl ?_
    show Steps p.tables e below (T223.setTop (mkF m 45 #[.val (.ref a2), .val (.ref a3)] [(.ref a3), (.long c3), (.ref a2)])) _
    refine st225 _ ?_
    show Steps p.tables e below (T225.setTop (mkF m 48 #[.val (.ref a2), .val (.ref a3)] [(.long d3), (.long c3), (.ref a2)])) _
    refine XS.ladd X225.here hx rfl (hb hby dx_prog_17_method_8_code_48) rfl ?_
    show Steps p.tables e below (T225.setTop (mkF m 49 #[.val (.ref a2), .val (.ref a3)] [(.long (c3 + d3)), (.ref a2)])) _
    refine st227 _ ?_
    show Steps p.tables e below (T227.setTop (mkF m 52 #[.val (.ref a2), .val (.ref a3)] [])) _
    refine XS.aloadN X227.here hx rfl (hb hby dx_prog_17_method_8_code_52) rfl rfl ?_
    show Steps p.tables e below (T227.setTop (mkF m 53 #[.val (.ref a2), .val (.ref a3)] [(.ref a2)])) _
    refine XS.dup X227.here hx rfl (hb hby dx_prog_17_method_8_code_53) rfl rfl ?_
    show Steps p.tables e below (T227.setTop (mkF m 54 #[.val (.ref a2), .val (.ref a3)] [(.ref a2), (.ref a2)])) _
    refine st230 _ ?_
    show Steps p.tables e below (T230.setTop (mkF m 57 #[.val (.ref a2), .val (.ref a3)] [(.long c4), (.ref a2)])) _
    refine XS.aloadN X230.here hx rfl (hb hby dx_prog_17_method_8_code_57) rfl rfl ?_
    show Steps p.tables e below (T230.setTop (mkF m 58 #[.val (.ref a2), .val (.ref a3)] [(.ref a3), (.long c4), (.ref a2)])) _
    refine st232 _ ?_
    show Steps p.tables e below (T232.setTop (mkF m 61 #[.val (.ref a2), .val (.ref a3)] [(.long d4), (.long c4), (.ref a2)])) _
    refine XS.ladd X232.here hx rfl (hb hby dx_prog_17_method_8_code_61) rfl ?_
    show Steps p.tables e below (T232.setTop (mkF m 62 #[.val (.ref a2), .val (.ref a3)] [(.long (c4 + d4)), (.ref a2)])) _
    refine st234 _ ?_
    show Steps p.tables e below (T234.setTop (mkF m 65 #[.val (.ref a2), .val (.ref a3)] [])) _
    refine XS.aloadN X234.here hx rfl (hb hby dx_prog_17_method_8_code_65) rfl rfl ?_
    show Steps p.tables e below (T234.setTop (mkF m 66 #[.val (.ref a2), .val (.ref a3)] [(.ref a2)])) _
    refine XS.dup X234.here hx rfl (hb hby dx_prog_17_method_8_code_66) rfl rfl ?_
    show Steps p.tables e below (T234.setTop (mkF m 67 #[.val (.ref a2), .val (.ref a3)] [(.ref a2), (.ref a2)])) _
    refine st237 _ ?_
    show Steps p.tables e below (T237.setTop (mkF m 70 #[.val (.ref a2), .val (.ref a3)] [(.long c5), (.ref a2)])) _
    refine XS.aloadN X237.here hx rfl (hb hby dx_prog_17_method_8_code_70) rfl rfl ?_
    show Steps p.tables e below (T237.setTop (mkF m 71 #[.val (.ref a2), .val (.ref a3)] [(.ref a3), (.long c5), (.ref a2)])) _
    refine st239 _ ?_
    show Steps p.tables e below (T239.setTop (mkF m 74 #[.val (.ref a2), .val (.ref a3)] [(.long d5), (.long c5), (.ref a2)])) _
    refine XS.ladd X239.here hx rfl (hb hby dx_prog_17_method_8_code_74) rfl ?_
    show Steps p.tables e below (T239.setTop (mkF m 75 #[.val (.ref a2), .val (.ref a3)] [(.long (c5 + d5)), (.ref a2)])) _
    refine st241 _ ?_
    show Steps p.tables e below (T241.setTop (mkF m 78 #[.val (.ref a2), .val (.ref a3)] [])) _
    refine XS.aloadN X241.here hx rfl (hb hby dx_prog_17_method_8_code_78) rfl rfl ?_
    show Steps p.tables e below (T241.setTop (mkF m 79 #[.val (.ref a2), .val (.ref a3)] [(.ref a2)])) _
    refine XS.dup X241.here hx rfl (hb hby dx_prog_17_method_8_code_79) rfl rfl ?_
    show Steps p.tables e below (T241.setTop (mkF m 80 #[.val (.ref a2), .val (.ref a3)] [(.ref a2), (.ref a2)])) _
    refine st244 _ ?_
    show Steps p.tables e below (T244.setTop (mkF m 83 #[.val (.ref a2), .val (.ref a3)] [(.long c6), (.ref a2)])) _
    refine XS.aloadN X244.here hx rfl (hb hby dx_prog_17_method_8_code_83) rfl rfl ?_
    show Steps p.tables e below (T244.setTop (mkF m 84 #[.val (.ref a2), .val (.ref a3)] [(.ref a3), (.long c6), (.ref a2)])) _
    refine st246 _ ?_
    show Steps p.tables e below (T246.setTop (mkF m 87 #[.val (.ref a2), .val (.ref a3)] [(.long d6), (.long c6), (.ref a2)])) _
    refine XS.ladd X246.here hx rfl (hb hby dx_prog_17_method_8_code_87) rfl ?_
    show Steps p.tables e below (T246.setTop (mkF m 88 #[.val (.ref a2), .val (.ref a3)] [(.long (c6 + d6)), (.ref a2)])) _
    refine st248 _ ?_
    show Steps p.tables e below (T248.setTop (mkF m 91 #[.val (.ref a2), .val (.ref a3)] [])) _
    refine XS.aloadN X248.here hx rfl (hb hby dx_prog_17_method_8_code_91) rfl rfl ?_
    show Steps p.tables e below (T248.setTop (mkF m 92 #[.val (.ref a2), .val (.ref a3)] [(.ref a2)])) _
    refine XS.dup X248.here hx rfl (hb hby dx_prog_17_method_8_code_92) rfl rfl ?_
    show Steps p.tables e below (T248.setTop (mkF m 93 #[.val (.ref a2), .val (.ref a3)] [(.ref a2), (.ref a2)])) _
    refine st251 _ ?_
    show Steps p.tables e below (T251.setTop (mkF m 96 #[.val (.ref a2), .val (.ref a3)] [(.long c7), (.ref a2)])) _
    refine XS.aloadN X251.here hx rfl (hb hby dx_prog_17_method_8_code_96) rfl rfl ?_
    show Steps p.tables e below (T251.setTop (mkF m 97 #[.val (.ref a2), .val (.ref a3)] [(.ref a3), (.long c7), (.ref a2)])) _
    refine st253 _ ?_
    show Steps p.tables e below (T253.setTop (mkF m 100 #[.val (.ref a2), .val (.ref a3)] [(.long d7), (.long c7), (.ref a2)])) _
    refine XS.ladd X253.here hx rfl (hb hby dx_prog_17_method_8_code_100) rfl ?_
    show Steps p.tables e below (T253.setTop (mkF m 101 #[.val (.ref a2), .val (.ref a3)] [(.long (c7 + d7)), (.ref a2)])) _
    refine st255 _ ?_
    show Steps p.tables e below (T255.setTop (mkF m 104 #[.val (.ref a2), .val (.ref a3)] [])) _
    refine XS.aloadN X255.here hx rfl (hb hby dx_prog_17_method_8_code_104) rfl rfl ?_
    show Steps p.tables e below (T255.setTop (mkF m 105 #[.val (.ref a2), .val (.ref a3)] [(.ref a2)])) _
    refine XS.dup X255.here hx rfl (hb hby dx_prog_17_method_8_code_105) rfl rfl ?_
    show Steps p.tables e below (T255.setTop (mkF m 106 #[.val (.ref a2), .val (.ref a3)] [(.ref a2), (.ref a2)])) _
    refine st258 _ ?_
    show Steps p.tables e below (T258.setTop (mkF m 109 #[.val (.ref a2), .val (.ref a3)] [(.long c8), (.ref a2)])) _
    refine XS.aloadN X258.here hx rfl (hb hby dx_prog_17_method_8_code_109) rfl rfl ?_
    show Steps p.tables e below (T258.setTop (mkF m 110 #[.val (.ref a2), .val (.ref a3)] [(.ref a3), (.long c8), (.ref a2)])) _
    refine st260 _ ?_
    show Steps p.tables e below (T260.setTop (mkF m 113 #[.val (.ref a2), .val (.ref a3)] [(.long d8), (.long c8), (.ref a2)])) _
    refine XS.ladd X260.here hx rfl (hb hby dx_prog_17_method_8_code_113) rfl ?_
    show Steps p.tables e below (T260.setTop (mkF m 114 #[.val (.ref a2), .val (.ref a3)] [(.long (c8 + d8)), (.ref a2)])) _
    refine st262 _ ?_
    show Steps p.tables e below (T262.setTop (mkF m 117 #[.val (.ref a2), .val (.ref a3)] [])) _
    refine XS.aloadN X262.here hx rfl (hb hby dx_prog_17_method_8_code_117) rfl rfl ?_
    show Steps p.tables e below (T262.setTop (mkF m 118 #[.val (.ref a2), .val (.ref a3)] [(.ref a2)])) _
    refine XS.dup X262.here hx rfl (hb hby dx_prog_17_method_8_code_118) rfl rfl ?_
    show Steps p.tables e below (T262.setTop (mkF m 119 #[.val (.ref a2), .val (.ref a3)] [(.ref a2), (.ref a2)])) _
    refine st265 _ ?_
    show Steps p.tables e below (T265.setTop (mkF m 122 #[.val (.ref a2), .val (.ref a3)] [(.long c9), (.ref a2)])) _
    refine XS.aloadN X265.here hx rfl (hb hby dx_prog_17_method_8_code_122) rfl rfl ?_
    show Steps p.tables e below (T265.setTop (mkF m 123 #[.val (.ref a2), .val (.ref a3)] [(.ref a3), (.long c9), (.ref a2)])) _
    refine st267 _ ?_
    show Steps p.tables e below (T267.setTop (mkF m 126 #[.val (.ref a2), .val (.ref a3)] [(.long d9), (.long c9), (.ref a2)])) _
    refine XS.ladd X267.here hx rfl (hb hby dx_prog_17_method_8_code_126) rfl ?_
    show Steps p.tables e below (T267.setTop (mkF m 127 #[.val (.ref a2), .val (.ref a3)] [(.long (c9 + d9)), (.ref a2)])) _
    refine st269 _ ?_
    show Steps p.tables e below (T269.setTop (mkF m 130 #[.val (.ref a2), .val (.ref a3)] [])) _
    exact X269.returnOut hx Bd.returns (hb hby dx_prog_17_method_8_code_130) hr
  · show Qadd Z ns a2 a3 c0 c1 c2 c3 c4 c5 c6 c7 c8 c9 d0 d1 d2 d3 d4 d5 d6 d7 d8 d9 h0 n0 _ T269.heap _
    rw [e269]
    exact ⟨rfl, N269, K0_270, f271, f272, f273, f274, f275, f276, f277, f278, f279, f280, Fw269⟩
theorem dx_method_4_code_0 : decode method_4_code 0 = .ok (.iload_n 0, 1) := by decide +kernel
theorem dx_method_4_code_1 : decode method_4_code 1 = .ok (.iload_n 1, 1) := by decide +kernel
theorem dx_method_4_code_2 : decode method_4_code 2 = .ok (.iushr, 1) := by decide +kernel
theorem dx_method_4_code_3 : decode method_4_code 3 = .ok (.iconst 1, 1) := by decide +kernel
theorem dx_method_4_code_4 : decode method_4_code 4 = .ok (.iand, 1) := by decide +kernel
theorem dx_method_4_code_5 : decode method_4_code 5 = .ok (.i2l, 1) := by decide +kernel
theorem dx_method_4_code_6 : decode method_4_code 6 = .ok (.lreturn, 1) := by decide +kernel
def Qbit (Z : State) (ns : Addr) (f : Int32) (i : Int32) (h0 : Heap) (n0 : Nat) (v : Option Value) (h : Heap) (L : List Loc) : Prop := ∃ r : Int64, v = some (.long r) ∧ Fr n0 L ∧ h = h0 ∧ r = ((((f.toUInt32 >>> (i &&& 31).toUInt32).toInt32) &&& (1 : Int32)).toInt64)
theorem ef_method_4_code_II (m : MethodId) (x0 : Int32) (x1 : Int32) : entryFrame m #[(.int x0), (.int x1)] 2 = mkF m 0 #[.val (.int x0), .val (.int x1)] [] := by first | (simp [entryFrame, mkF, argsToLocals, Value.category]; done) | rfl
abbrev y21 : MethodName := ⟨"com/example/cistern/cistern/CountersAddPinLaw", "bit", "(II)J"⟩
theorem pn_com_example_cistern_cistern_CountersAddPinLaw : plainName "com/example/cistern/cistern/CountersAddPinLaw" = true := by first | (simp [plainName, overriddenIn]; done) | decide +kernel
set_option maxRecDepth 65536 in
set_option maxHeartbeats 40000000 in
theorem rmbit (l : Launch) (Z : State) (a0 : Array Value) (ns : Addr) (hG : Glob Z a0 ns) (ws : List Jvm.Cond) (f : Int32) (i : Int32) (h0 : Heap) (n0 : Nat) (Z0 : n0 ≤ h0.size) (X00 : Old Z n0 h0) :
    MetFree l y21 (head1 (Jvm.Cond.code y21 method_4_code 2 (some .long) :: ws) ({ frames := 0, cells := 0, slots := 0, locals := 0 } : Room)) (fun a U => a = #[(.int f), (.int i)] ∧ Z.Warmed39 U.vm ∧ U.heap = h0) (fun _ _ _ _ _ => True) (fun _ U o U' => ∃ v L, o = .returned v ∧ Qbit Z ns f i h0 n0 v U'.heap L ∧ FrameEnd U o U' L ({ frames := 0, cells := 0, slots := 0, locals := 0 } : Room).cells ({ frames := 0, cells := 0, slots := 0, locals := 0 } : Room).slots) := by
  obtain ⟨hw, O_ns, O_ens, O_scale, O_ratio⟩ := id hG
  have W : ∀ (i : Nat) {d : Jvm.Cond}, tables_1[i]? = some d → d.before a0 Z = true := fun i d h => hw d (List.mem_of_getElem? h)
  refine MetFree.of_bodySF (plainFor_of_name pn_com_example_cistern_cistern_CountersAddPinLaw) hisR ?_
  intro p e s m args below meth c s₁ Bd hml0 hP hK
  obtain ⟨rfl, hZ, hh⟩ := hP
  have hx := Bd.exec
  have hby := Bd.bytes
  have hml : c.maxLocals = 2 := hml0
  have hown : s.vm.findClass "com/example/cistern/cistern/CountersAddPinLaw" = some m.cls := findClass_of_methodNamed Bd.named
  have hnm := (name_of_methodNamed Bd.named Bd.method).1
  have X0 : Stand p l e ({ frames := 0, cells := 0, slots := 0, locals := 0 } : Room) s m #[(.int f), (.int i)] below meth c s₁ [] 0 0 := Stand.of_body Bd
  have e0 : s₁.heap = h0 := by rw [← hh, Bd.state]; rfl
  have N0 := Fr.nil n0
  have pre0 : ∀ t, Steps p.tables e below (s₁.setTop (mkF m 0 #[.val (.int f), .val (.int i)] [])) t → Steps p.tables e below (s₁.setTop (entryFrame m #[(.int f), (.int i)] 2)) t := fun t kk_ => castTop (ef_method_4_code_II m f i) kk_
  obtain ⟨fs, hr, hrun, hended, hW, hsame⟩ := X0.leave (v := some (.long ((((f.toUInt32 >>> (i &&& 31).toUInt32).toInt32) &&& (1 : Int32)).toInt64))) (fun h => by rw [Bd.returns] at h; cases h)
  refine ⟨_, _, pre0 _ ?_, hrun, hended, _, _, rfl, ?_, ⟨_, rfl⟩, hW, hsame.mono (Nat.le_of_ble_eq_true rfl) (Nat.le_of_ble_eq_true rfl)⟩
  · show Steps p.tables e below (s₁.setTop (mkF m 0 #[.val (.int f), .val (.int i)] [])) _
    refine XS.iloadN X0.here hx rfl (hb hby dx_method_4_code_0) rfl ?_
    show Steps p.tables e below (s₁.setTop (mkF m 1 #[.val (.int f), .val (.int i)] [(.int f)])) _
    refine XS.iloadN X0.here hx rfl (hb hby dx_method_4_code_1) rfl ?_
    show Steps p.tables e below (s₁.setTop (mkF m 2 #[.val (.int f), .val (.int i)] [(.int i), (.int f)])) _
    refine XS.iushr X0.here hx rfl (hb hby dx_method_4_code_2) rfl ?_
    show Steps p.tables e below (s₁.setTop (mkF m 3 #[.val (.int f), .val (.int i)] [(.int ((f.toUInt32 >>> (i &&& 31).toUInt32).toInt32))])) _
    refine XS.iconst X0.here hx rfl (hb hby dx_method_4_code_3) ?_
    show Steps p.tables e below (s₁.setTop (mkF m 4 #[.val (.int f), .val (.int i)] [(.int (1 : Int32)), (.int ((f.toUInt32 >>> (i &&& 31).toUInt32).toInt32))])) _
    refine XS.iand X0.here hx rfl (hb hby dx_method_4_code_4) rfl ?_
    show Steps p.tables e below (s₁.setTop (mkF m 5 #[.val (.int f), .val (.int i)] [(.int (((f.toUInt32 >>> (i &&& 31).toUInt32).toInt32) &&& (1 : Int32)))])) _
    refine XS.i2l X0.here hx rfl (hb hby dx_method_4_code_5) rfl ?_
    show Steps p.tables e below (s₁.setTop (mkF m 6 #[.val (.int f), .val (.int i)] [(.long ((((f.toUInt32 >>> (i &&& 31).toUInt32).toInt32) &&& (1 : Int32)).toInt64))])) _
    exact retOut X0 hx Bd.returns rfl (Or.inr (Or.inl ⟨rfl, rfl, _, rfl⟩)) (hb hby dx_method_4_code_6) hr
  · show Qbit Z ns f i h0 n0 _ s₁.heap _
    rw [e0]
    exact ⟨_, rfl, N0, rfl, rfl⟩
def own_pick (f i : Int32) (q : Int64) : Int64 := if (((f.toUInt32 >>> (i &&& 31).toUInt32).toInt32) &&& (1 : Int32)) = (0 : Int32) then 0 else q
theorem own_ipos {P : Prop} [Decidable P] {Z : State} {h : Heap} {x : Addr} {C n d : String} {a b : Int64} (hp : P) (F : Fld Z h x C n d (.long a)) : Fld Z h x C n d (.long (if P then a else b)) := by rw [if_pos hp]; exact F
theorem own_ineg {P : Prop} [Decidable P] {Z : State} {h : Heap} {x : Addr} {C n d : String} {a b : Int64} (hp : ¬ P) (F : Fld Z h x C n d (.long b)) : Fld Z h x C n d (.long (if P then a else b)) := by rw [if_neg hp]; exact F
theorem dx_method_5_code_0 : decode method_5_code 0 = .ok (.iload_n 0, 1) := by decide +kernel
theorem dx_method_5_code_1 : decode method_5_code 1 = .ok (.iload_n 1, 1) := by decide +kernel
theorem dx_method_5_code_2 : decode method_5_code 2 = .ok (.iushr, 1) := by decide +kernel
theorem dx_method_5_code_3 : decode method_5_code 3 = .ok (.iconst 1, 1) := by decide +kernel
theorem dx_method_5_code_4 : decode method_5_code 4 = .ok (.iand, 1) := by decide +kernel
theorem dx_method_5_code_5 : decode method_5_code 5 = .ok (.ifCond .eq 7, 3) := by decide +kernel
theorem dx_method_5_code_12 : decode method_5_code 12 = .ok (.lconst 0, 1) := by decide +kernel
theorem dx_method_5_code_13 : decode method_5_code 13 = .ok (.lreturn, 1) := by decide +kernel
theorem dx_method_5_code_8 : decode method_5_code 8 = .ok (.lload_n 2, 1) := by decide +kernel
theorem dx_method_5_code_9 : decode method_5_code 9 = .ok (.goto 4, 3) := by decide +kernel
def Qpick (Z : State) (ns : Addr) (f : Int32) (i : Int32) (q : Int64) (h0 : Heap) (n0 : Nat) (v : Option Value) (h : Heap) (L : List Loc) : Prop := ∃ r : Int64, v = some (.long r) ∧ Fr n0 L ∧ h = h0 ∧ r = (own_pick f i q)
theorem ef_method_5_code_IIJ (m : MethodId) (x0 : Int32) (x1 : Int32) (x2 : Int64) : entryFrame m #[(.int x0), (.int x1), (.long x2)] 4 = mkF m 0 #[.val (.int x0), .val (.int x1), .val (.long x2), .second] [] := by first | (simp [entryFrame, mkF, argsToLocals, Value.category]; done) | rfl
abbrev y22 : MethodName := ⟨"com/example/cistern/cistern/CountersAddPinLaw", "pick", "(IIJ)J"⟩
set_option maxRecDepth 65536 in
set_option maxHeartbeats 40000000 in
theorem rmpick_z (l : Launch) (Z : State) (a0 : Array Value) (ns : Addr) (hG : Glob Z a0 ns) (ws : List Jvm.Cond) (f : Int32) (i : Int32) (q : Int64) (h0 : Heap) (n0 : Nat) (Z0 : n0 ≤ h0.size) (X00 : Old Z n0 h0) (hc5 : (((f.toUInt32 >>> (i &&& 31).toUInt32).toInt32) &&& (1 : Int32)) = (0 : Int32)) :
    MetFree l y22 (head1 (Jvm.Cond.code y22 method_5_code 4 (some .long) :: ws) ({ frames := 0, cells := 0, slots := 0, locals := 0 } : Room)) (fun a U => a = #[(.int f), (.int i), (.long q)] ∧ Z.Warmed39 U.vm ∧ U.heap = h0) (fun _ _ _ _ _ => True) (fun _ U o U' => ∃ v L, o = .returned v ∧ Qpick Z ns f i q h0 n0 v U'.heap L ∧ FrameEnd U o U' L ({ frames := 0, cells := 0, slots := 0, locals := 0 } : Room).cells ({ frames := 0, cells := 0, slots := 0, locals := 0 } : Room).slots) := by
  obtain ⟨hw, O_ns, O_ens, O_scale, O_ratio⟩ := id hG
  have W : ∀ (i : Nat) {d : Jvm.Cond}, tables_1[i]? = some d → d.before a0 Z = true := fun i d h => hw d (List.mem_of_getElem? h)
  refine MetFree.of_bodySF (plainFor_of_name pn_com_example_cistern_cistern_CountersAddPinLaw) hisR ?_
  intro p e s m args below meth c s₁ Bd hml0 hP hK
  obtain ⟨rfl, hZ, hh⟩ := hP
  have hx := Bd.exec
  have hby := Bd.bytes
  have hml : c.maxLocals = 4 := hml0
  have hown : s.vm.findClass "com/example/cistern/cistern/CountersAddPinLaw" = some m.cls := findClass_of_methodNamed Bd.named
  have hnm := (name_of_methodNamed Bd.named Bd.method).1
  have X0 : Stand p l e ({ frames := 0, cells := 0, slots := 0, locals := 0 } : Room) s m #[(.int f), (.int i), (.long q)] below meth c s₁ [] 0 0 := Stand.of_body Bd
  have e0 : s₁.heap = h0 := by rw [← hh, Bd.state]; rfl
  have N0 := Fr.nil n0
  have pre0 : ∀ t, Steps p.tables e below (s₁.setTop (mkF m 0 #[.val (.int f), .val (.int i), .val (.long q), .second] [])) t → Steps p.tables e below (s₁.setTop (entryFrame m #[(.int f), (.int i), (.long q)] 4)) t := fun t kk_ => castTop (ef_method_5_code_IIJ m f i q) kk_
  obtain ⟨fs, hr, hrun, hended, hW, hsame⟩ := X0.leave (v := some (.long (0 : Int64))) (fun h => by rw [Bd.returns] at h; cases h)
  refine ⟨_, _, pre0 _ ?_, hrun, hended, _, _, rfl, ?_, ⟨_, rfl⟩, hW, hsame.mono (Nat.le_of_ble_eq_true rfl) (Nat.le_of_ble_eq_true rfl)⟩
  · show Steps p.tables e below (s₁.setTop (mkF m 0 #[.val (.int f), .val (.int i), .val (.long q), .second] [])) _
    refine XS.iloadN X0.here hx rfl (hb hby dx_method_5_code_0) rfl ?_
    show Steps p.tables e below (s₁.setTop (mkF m 1 #[.val (.int f), .val (.int i), .val (.long q), .second] [(.int f)])) _
    refine XS.iloadN X0.here hx rfl (hb hby dx_method_5_code_1) rfl ?_
    show Steps p.tables e below (s₁.setTop (mkF m 2 #[.val (.int f), .val (.int i), .val (.long q), .second] [(.int i), (.int f)])) _
    refine XS.iushr X0.here hx rfl (hb hby dx_method_5_code_2) rfl ?_
    show Steps p.tables e below (s₁.setTop (mkF m 3 #[.val (.int f), .val (.int i), .val (.long q), .second] [(.int ((f.toUInt32 >>> (i &&& 31).toUInt32).toInt32))])) _
    refine XS.iconst X0.here hx rfl (hb hby dx_method_5_code_3) ?_
    show Steps p.tables e below (s₁.setTop (mkF m 4 #[.val (.int f), .val (.int i), .val (.long q), .second] [(.int (1 : Int32)), (.int ((f.toUInt32 >>> (i &&& 31).toUInt32).toInt32))])) _
    refine XS.iand X0.here hx rfl (hb hby dx_method_5_code_4) rfl ?_
    show Steps p.tables e below (s₁.setTop (mkF m 5 #[.val (.int f), .val (.int i), .val (.long q), .second] [(.int (((f.toUInt32 >>> (i &&& 31).toUInt32).toInt32) &&& (1 : Int32)))])) _
    refine XS.ifYes X0.here hx rfl (pc0 := 5) (pc' := 12) rfl (hb hby dx_method_5_code_5) rfl ((if0 _ _).trans (teq (hc5 : (((f.toUInt32 >>> (i &&& 31).toUInt32).toInt32) &&& (1 : Int32)) = (0 : Int32))).1) (by decide) (by decide) ?_
    show Steps p.tables e below (s₁.setTop (mkF m 12 #[.val (.int f), .val (.int i), .val (.long q), .second] [])) _
    refine XS.lconst X0.here hx rfl (hb hby dx_method_5_code_12) ?_
    show Steps p.tables e below (s₁.setTop (mkF m 13 #[.val (.int f), .val (.int i), .val (.long q), .second] [(.long (0 : Int64))])) _
    exact retOut X0 hx Bd.returns rfl (Or.inr (Or.inl ⟨rfl, rfl, _, rfl⟩)) (hb hby dx_method_5_code_13) hr
  · show Qpick Z ns f i q h0 n0 _ s₁.heap _
    rw [e0]
    exact ⟨_, rfl, N0, rfl, by rw [own_pick, if_pos hc5]⟩
set_option maxRecDepth 65536 in
set_option maxHeartbeats 40000000 in
theorem rmpick_n (l : Launch) (Z : State) (a0 : Array Value) (ns : Addr) (hG : Glob Z a0 ns) (ws : List Jvm.Cond) (f : Int32) (i : Int32) (q : Int64) (h0 : Heap) (n0 : Nat) (Z0 : n0 ≤ h0.size) (X00 : Old Z n0 h0) (hc5 : ¬ ((((f.toUInt32 >>> (i &&& 31).toUInt32).toInt32) &&& (1 : Int32)) = (0 : Int32))) :
    MetFree l y22 (head1 (Jvm.Cond.code y22 method_5_code 4 (some .long) :: ws) ({ frames := 0, cells := 0, slots := 0, locals := 0 } : Room)) (fun a U => a = #[(.int f), (.int i), (.long q)] ∧ Z.Warmed39 U.vm ∧ U.heap = h0) (fun _ _ _ _ _ => True) (fun _ U o U' => ∃ v L, o = .returned v ∧ Qpick Z ns f i q h0 n0 v U'.heap L ∧ FrameEnd U o U' L ({ frames := 0, cells := 0, slots := 0, locals := 0 } : Room).cells ({ frames := 0, cells := 0, slots := 0, locals := 0 } : Room).slots) := by
  obtain ⟨hw, O_ns, O_ens, O_scale, O_ratio⟩ := id hG
  have W : ∀ (i : Nat) {d : Jvm.Cond}, tables_1[i]? = some d → d.before a0 Z = true := fun i d h => hw d (List.mem_of_getElem? h)
  refine MetFree.of_bodySF (plainFor_of_name pn_com_example_cistern_cistern_CountersAddPinLaw) hisR ?_
  intro p e s m args below meth c s₁ Bd hml0 hP hK
  obtain ⟨rfl, hZ, hh⟩ := hP
  have hx := Bd.exec
  have hby := Bd.bytes
  have hml : c.maxLocals = 4 := hml0
  have hown : s.vm.findClass "com/example/cistern/cistern/CountersAddPinLaw" = some m.cls := findClass_of_methodNamed Bd.named
  have hnm := (name_of_methodNamed Bd.named Bd.method).1
  have X0 : Stand p l e ({ frames := 0, cells := 0, slots := 0, locals := 0 } : Room) s m #[(.int f), (.int i), (.long q)] below meth c s₁ [] 0 0 := Stand.of_body Bd
  have e0 : s₁.heap = h0 := by rw [← hh, Bd.state]; rfl
  have N0 := Fr.nil n0
  have pre0 : ∀ t, Steps p.tables e below (s₁.setTop (mkF m 0 #[.val (.int f), .val (.int i), .val (.long q), .second] [])) t → Steps p.tables e below (s₁.setTop (entryFrame m #[(.int f), (.int i), (.long q)] 4)) t := fun t kk_ => castTop (ef_method_5_code_IIJ m f i q) kk_
  obtain ⟨fs, hr, hrun, hended, hW, hsame⟩ := X0.leave (v := some (.long q)) (fun h => by rw [Bd.returns] at h; cases h)
  refine ⟨_, _, pre0 _ ?_, hrun, hended, _, _, rfl, ?_, ⟨_, rfl⟩, hW, hsame.mono (Nat.le_of_ble_eq_true rfl) (Nat.le_of_ble_eq_true rfl)⟩
  · show Steps p.tables e below (s₁.setTop (mkF m 0 #[.val (.int f), .val (.int i), .val (.long q), .second] [])) _
    refine XS.iloadN X0.here hx rfl (hb hby dx_method_5_code_0) rfl ?_
    show Steps p.tables e below (s₁.setTop (mkF m 1 #[.val (.int f), .val (.int i), .val (.long q), .second] [(.int f)])) _
    refine XS.iloadN X0.here hx rfl (hb hby dx_method_5_code_1) rfl ?_
    show Steps p.tables e below (s₁.setTop (mkF m 2 #[.val (.int f), .val (.int i), .val (.long q), .second] [(.int i), (.int f)])) _
    refine XS.iushr X0.here hx rfl (hb hby dx_method_5_code_2) rfl ?_
    show Steps p.tables e below (s₁.setTop (mkF m 3 #[.val (.int f), .val (.int i), .val (.long q), .second] [(.int ((f.toUInt32 >>> (i &&& 31).toUInt32).toInt32))])) _
    refine XS.iconst X0.here hx rfl (hb hby dx_method_5_code_3) ?_
    show Steps p.tables e below (s₁.setTop (mkF m 4 #[.val (.int f), .val (.int i), .val (.long q), .second] [(.int (1 : Int32)), (.int ((f.toUInt32 >>> (i &&& 31).toUInt32).toInt32))])) _
    refine XS.iand X0.here hx rfl (hb hby dx_method_5_code_4) rfl ?_
    show Steps p.tables e below (s₁.setTop (mkF m 5 #[.val (.int f), .val (.int i), .val (.long q), .second] [(.int (((f.toUInt32 >>> (i &&& 31).toUInt32).toInt32) &&& (1 : Int32)))])) _
    refine XS.ifNo X0.here hx rfl (hb hby dx_method_5_code_5) rfl ((if0 _ _).trans (feq (hc5 : ¬ ((((f.toUInt32 >>> (i &&& 31).toUInt32).toInt32) &&& (1 : Int32)) = (0 : Int32)))).1) ?_
    show Steps p.tables e below (s₁.setTop (mkF m 8 #[.val (.int f), .val (.int i), .val (.long q), .second] [])) _
    refine XS.lloadN X0.here hx rfl (hb hby dx_method_5_code_8) rfl ?_
    show Steps p.tables e below (s₁.setTop (mkF m 9 #[.val (.int f), .val (.int i), .val (.long q), .second] [(.long q)])) _
    refine XS.goto X0.here hx rfl (pc0 := 9) (pc' := 13) rfl (hb hby dx_method_5_code_9) (by decide) (by decide) ?_
    show Steps p.tables e below (s₁.setTop (mkF m 13 #[.val (.int f), .val (.int i), .val (.long q), .second] [(.long q)])) _
    exact retOut X0 hx Bd.returns rfl (Or.inr (Or.inl ⟨rfl, rfl, _, rfl⟩)) (hb hby dx_method_5_code_13) hr
  · show Qpick Z ns f i q h0 n0 _ s₁.heap _
    rw [e0]
    exact ⟨_, rfl, N0, rfl, by rw [own_pick, if_neg hc5]⟩
set_option maxRecDepth 65536 in
theorem rmpick (l : Launch) (Z : State) (a0 : Array Value) (ns : Addr) (hG : Glob Z a0 ns) (ws : List Jvm.Cond) (f : Int32) (i : Int32) (q : Int64) (h0 : Heap) (n0 : Nat) (Z0 : n0 ≤ h0.size) (X00 : Old Z n0 h0) :
    MetFree l y22 (head1 (Jvm.Cond.code y22 method_5_code 4 (some .long) :: ws) ({ frames := 0, cells := 0, slots := 0, locals := 0 } : Room)) (fun a U => a = #[(.int f), (.int i), (.long q)] ∧ Z.Warmed39 U.vm ∧ U.heap = h0) (fun _ _ _ _ _ => True) (fun _ U o U' => ∃ v L, o = .returned v ∧ Qpick Z ns f i q h0 n0 v U'.heap L ∧ FrameEnd U o U' L ({ frames := 0, cells := 0, slots := 0, locals := 0 } : Room).cells ({ frames := 0, cells := 0, slots := 0, locals := 0 } : Room).slots) := by
  by_cases h : (((f.toUInt32 >>> (i &&& 31).toUInt32).toInt32) &&& (1 : Int32)) = (0 : Int32)
  · exact rmpick_z l Z a0 ns hG ws f i q h0 n0 Z0 X00 h
  · exact rmpick_n l Z a0 ns hG ws f i q h0 n0 Z0 X00 h
theorem dx_method_6_code_0 : decode method_6_code 0 = .ok (.lload_n 2, 1) := by decide +kernel
theorem dx_method_6_code_1 : decode method_6_code 1 = .ok (.lconst 0, 1) := by decide +kernel
theorem dx_method_6_code_2 : decode method_6_code 2 = .ok (.lcmp, 1) := by decide +kernel
theorem dx_method_6_code_3 : decode method_6_code 3 = .ok (.ifCond .ne 5, 3) := by decide +kernel
theorem dx_method_6_code_6 : decode method_6_code 6 = .ok (.lconst 0, 1) := by decide +kernel
theorem dx_method_6_code_7 : decode method_6_code 7 = .ok (.lreturn, 1) := by decide +kernel
theorem dx_method_6_code_8 : decode method_6_code 8 = .ok (.lload_n 0, 1) := by decide +kernel
theorem dx_method_6_code_9 : decode method_6_code 9 = .ok (.lload_n 2, 1) := by decide +kernel
theorem dx_method_6_code_10 : decode method_6_code 10 = .ok (.ldiv, 1) := by decide +kernel
theorem dx_method_6_code_11 : decode method_6_code 11 = .ok (.ldc2_w 85, 3) := by decide +kernel
theorem dx_method_6_code_14 : decode method_6_code 14 = .ok (.ldiv, 1) := by decide +kernel
theorem dx_method_6_code_15 : decode method_6_code 15 = .ok (.lreturn, 1) := by decide +kernel
def Qlavg (Z : State) (ns : Addr) (q1 : Int64) (q2 : Int64) (h0 : Heap) (n0 : Nat) (v : Option Value) (h : Heap) (L : List Loc) : Prop := v = some (.long (own_avg q1 q2)) ∧ Fr n0 L ∧ h = h0
theorem ef_method_6_code_JJ (m : MethodId) (x0 : Int64) (x1 : Int64) : entryFrame m #[(.long x0), (.long x1)] 4 = mkF m 0 #[.val (.long x0), .second, .val (.long x1), .second] [] := by first | (simp [entryFrame, mkF, argsToLocals, Value.category]; done) | rfl
abbrev y23 : MethodName := ⟨"com/example/cistern/cistern/CountersAddPinLaw", "avg", "(JJ)J"⟩
set_option maxRecDepth 65536 in
set_option maxHeartbeats 40000000 in
theorem rmlavg_z (l : Launch) (Z : State) (a0 : Array Value) (ns : Addr) (hG : Glob Z a0 ns) (ws : List Jvm.Cond) (q1 : Int64) (q2 : Int64) (h0 : Heap) (n0 : Nat) (Z0 : n0 ≤ h0.size) (X00 : Old Z n0 h0) (hz : q2 = (0 : Int64)) :
    MetFree l y23 (head1 (Jvm.Cond.code y23 method_6_code 4 (some .long) :: ws) ({ frames := 0, cells := 0, slots := 0, locals := 0 } : Room)) (fun a U => a = #[(.long q1), (.long q2)] ∧ Z.Warmed39 U.vm ∧ U.heap = h0) (fun _ _ _ _ _ => True) (fun _ U o U' => ∃ v L, o = .returned v ∧ Qlavg Z ns q1 q2 h0 n0 v U'.heap L ∧ FrameEnd U o U' L ({ frames := 0, cells := 0, slots := 0, locals := 0 } : Room).cells ({ frames := 0, cells := 0, slots := 0, locals := 0 } : Room).slots) := by
  obtain ⟨hw, O_ns, O_ens, O_scale, O_ratio⟩ := id hG
  have W : ∀ (i : Nat) {d : Jvm.Cond}, tables_1[i]? = some d → d.before a0 Z = true := fun i d h => hw d (List.mem_of_getElem? h)
  refine MetFree.of_bodySF (plainFor_of_name pn_com_example_cistern_cistern_CountersAddPinLaw) hisR ?_
  intro p e s m args below meth c s₁ Bd hml0 hP hK
  obtain ⟨rfl, hZ, hh⟩ := hP
  have hx := Bd.exec
  have hby := Bd.bytes
  have hml : c.maxLocals = 4 := hml0
  have hown : s.vm.findClass "com/example/cistern/cistern/CountersAddPinLaw" = some m.cls := findClass_of_methodNamed Bd.named
  have hnm := (name_of_methodNamed Bd.named Bd.method).1
  have X0 : Stand p l e ({ frames := 0, cells := 0, slots := 0, locals := 0 } : Room) s m #[(.long q1), (.long q2)] below meth c s₁ [] 0 0 := Stand.of_body Bd
  have e0 : s₁.heap = h0 := by rw [← hh, Bd.state]; rfl
  have N0 := Fr.nil n0
  have pre0 : ∀ t, Steps p.tables e below (s₁.setTop (mkF m 0 #[.val (.long q1), .second, .val (.long q2), .second] [])) t → Steps p.tables e below (s₁.setTop (entryFrame m #[(.long q1), (.long q2)] 4)) t := fun t kk_ => castTop (ef_method_6_code_JJ m q1 q2) kk_
  obtain ⟨fs, hr, hrun, hended, hW, hsame⟩ := X0.leave (v := some (.long (0 : Int64))) (fun h => by rw [Bd.returns] at h; cases h)
  refine ⟨_, _, pre0 _ ?_, hrun, hended, _, _, rfl, ?_, ⟨_, rfl⟩, hW, hsame.mono (Nat.le_of_ble_eq_true rfl) (Nat.le_of_ble_eq_true rfl)⟩
  · show Steps p.tables e below (s₁.setTop (mkF m 0 #[.val (.long q1), .second, .val (.long q2), .second] [])) _
    refine XS.lloadN X0.here hx rfl (hb hby dx_method_6_code_0) rfl ?_
    show Steps p.tables e below (s₁.setTop (mkF m 1 #[.val (.long q1), .second, .val (.long q2), .second] [(.long q2)])) _
    refine XS.lconst X0.here hx rfl (hb hby dx_method_6_code_1) ?_
    show Steps p.tables e below (s₁.setTop (mkF m 2 #[.val (.long q1), .second, .val (.long q2), .second] [(.long (0 : Int64)), (.long q2)])) _
    refine XS.lcmp X0.here hx rfl (hb hby dx_method_6_code_2) rfl ?_
    show Steps p.tables e below (s₁.setTop (mkF m 3 #[.val (.long q1), .second, .val (.long q2), .second] [(.int (lcmpW q2 (0 : Int64)))])) _
    refine XS.ifNo X0.here hx rfl (hb hby dx_method_6_code_3) rfl ((if0 _ _).trans (teq ((lw_eq _ _).mpr hz : (lcmpW q2 (0 : Int64)) = (0 : Int32))).2) ?_
    show Steps p.tables e below (s₁.setTop (mkF m 6 #[.val (.long q1), .second, .val (.long q2), .second] [])) _
    refine XS.lconst X0.here hx rfl (hb hby dx_method_6_code_6) ?_
    show Steps p.tables e below (s₁.setTop (mkF m 7 #[.val (.long q1), .second, .val (.long q2), .second] [(.long (0 : Int64))])) _
    exact retOut X0 hx Bd.returns rfl (Or.inr (Or.inl ⟨rfl, rfl, _, rfl⟩)) (hb hby dx_method_6_code_7) hr
  · show Qlavg Z ns q1 q2 h0 n0 _ s₁.heap _
    rw [e0]
    exact ⟨(by rw [own_avg0 hz]), N0, rfl⟩
set_option maxRecDepth 65536 in
set_option maxHeartbeats 40000000 in
theorem rmlavg_n (l : Launch) (Z : State) (a0 : Array Value) (ns : Addr) (hG : Glob Z a0 ns) (ws : List Jvm.Cond) (q1 : Int64) (q2 : Int64) (h0 : Heap) (n0 : Nat) (Z0 : n0 ≤ h0.size) (X00 : Old Z n0 h0) (hz : ¬ (q2 = (0 : Int64))) :
    MetFree l y23 (head1 (Jvm.Cond.code y23 method_6_code 4 (some .long) :: ws) ({ frames := 0, cells := 0, slots := 0, locals := 0 } : Room)) (fun a U => a = #[(.long q1), (.long q2)] ∧ Z.Warmed39 U.vm ∧ U.heap = h0) (fun _ _ _ _ _ => True) (fun _ U o U' => ∃ v L, o = .returned v ∧ Qlavg Z ns q1 q2 h0 n0 v U'.heap L ∧ FrameEnd U o U' L ({ frames := 0, cells := 0, slots := 0, locals := 0 } : Room).cells ({ frames := 0, cells := 0, slots := 0, locals := 0 } : Room).slots) := by
  obtain ⟨hw, O_ns, O_ens, O_scale, O_ratio⟩ := id hG
  have W : ∀ (i : Nat) {d : Jvm.Cond}, tables_1[i]? = some d → d.before a0 Z = true := fun i d h => hw d (List.mem_of_getElem? h)
  refine MetFree.of_bodySF (plainFor_of_name pn_com_example_cistern_cistern_CountersAddPinLaw) hisR ?_
  intro p e s m args below meth c s₁ Bd hml0 hP hK
  obtain ⟨rfl, hZ, hh⟩ := hP
  have hx := Bd.exec
  have hby := Bd.bytes
  have hml : c.maxLocals = 4 := hml0
  have hown : s.vm.findClass "com/example/cistern/cistern/CountersAddPinLaw" = some m.cls := findClass_of_methodNamed Bd.named
  have hnm := (name_of_methodNamed Bd.named Bd.method).1
  have X0 : Stand p l e ({ frames := 0, cells := 0, slots := 0, locals := 0 } : Room) s m #[(.long q1), (.long q2)] below meth c s₁ [] 0 0 := Stand.of_body Bd
  have e0 : s₁.heap = h0 := by rw [← hh, Bd.state]; rfl
  have N0 := Fr.nil n0
  have pre0 : ∀ t, Steps p.tables e below (s₁.setTop (mkF m 0 #[.val (.long q1), .second, .val (.long q2), .second] [])) t → Steps p.tables e below (s₁.setTop (entryFrame m #[(.long q1), (.long q2)] 4)) t := fun t kk_ => castTop (ef_method_6_code_JJ m q1 q2) kk_
  obtain ⟨fs, hr, hrun, hended, hW, hsame⟩ := X0.leave (v := some (.long ((q1 / q2) / (1000000 : Int64)))) (fun h => by rw [Bd.returns] at h; cases h)
  refine ⟨_, _, pre0 _ ?_, hrun, hended, _, _, rfl, ?_, ⟨_, rfl⟩, hW, hsame.mono (Nat.le_of_ble_eq_true rfl) (Nat.le_of_ble_eq_true rfl)⟩
  · show Steps p.tables e below (s₁.setTop (mkF m 0 #[.val (.long q1), .second, .val (.long q2), .second] [])) _
    refine XS.lloadN X0.here hx rfl (hb hby dx_method_6_code_0) rfl ?_
    show Steps p.tables e below (s₁.setTop (mkF m 1 #[.val (.long q1), .second, .val (.long q2), .second] [(.long q2)])) _
    refine XS.lconst X0.here hx rfl (hb hby dx_method_6_code_1) ?_
    show Steps p.tables e below (s₁.setTop (mkF m 2 #[.val (.long q1), .second, .val (.long q2), .second] [(.long (0 : Int64)), (.long q2)])) _
    refine XS.lcmp X0.here hx rfl (hb hby dx_method_6_code_2) rfl ?_
    show Steps p.tables e below (s₁.setTop (mkF m 3 #[.val (.long q1), .second, .val (.long q2), .second] [(.int (lcmpW q2 (0 : Int64)))])) _
    refine XS.ifYes X0.here hx rfl (pc0 := 3) (pc' := 8) rfl (hb hby dx_method_6_code_3) rfl ((if0 _ _).trans (feq (fun q => hz ((lw_eq _ _).mp q) : ¬ ((lcmpW q2 (0 : Int64)) = (0 : Int32)))).2) (by decide) (by decide) ?_
    show Steps p.tables e below (s₁.setTop (mkF m 8 #[.val (.long q1), .second, .val (.long q2), .second] [])) _
    refine XS.lloadN X0.here hx rfl (hb hby dx_method_6_code_8) rfl ?_
    show Steps p.tables e below (s₁.setTop (mkF m 9 #[.val (.long q1), .second, .val (.long q2), .second] [(.long q1)])) _
    refine XS.lloadN X0.here hx rfl (hb hby dx_method_6_code_9) rfl ?_
    show Steps p.tables e below (s₁.setTop (mkF m 10 #[.val (.long q1), .second, .val (.long q2), .second] [(.long q2), (.long q1)])) _
    refine XS.ldiv X0.here hx rfl (hb hby dx_method_6_code_10) rfl hz ?_
    show Steps p.tables e below (s₁.setTop (mkF m 11 #[.val (.long q1), .second, .val (.long q2), .second] [(.long (q1 / q2))])) _
    refine X0.ldc2Long hx hown (mvT hZ (W 133 rfl)) (g := (mkF m 11 #[.val (.long q1), .second, .val (.long q2), .second] [(.long (q1 / q2))])) rfl (hb hby dx_method_6_code_11) _ ?_
    show Steps p.tables e below (s₁.setTop (mkF m 14 #[.val (.long q1), .second, .val (.long q2), .second] [(.long (1000000 : Int64)), (.long (q1 / q2))])) _
    refine XS.ldiv X0.here hx rfl (hb hby dx_method_6_code_14) rfl (by decide) ?_
    show Steps p.tables e below (s₁.setTop (mkF m 15 #[.val (.long q1), .second, .val (.long q2), .second] [(.long ((q1 / q2) / (1000000 : Int64)))])) _
    exact retOut X0 hx Bd.returns rfl (Or.inr (Or.inl ⟨rfl, rfl, _, rfl⟩)) (hb hby dx_method_6_code_15) hr
  · show Qlavg Z ns q1 q2 h0 n0 _ s₁.heap _
    rw [e0]
    exact ⟨(by rw [own_avg1 hz, own_million]), N0, rfl⟩
set_option maxRecDepth 65536 in
theorem rmlavg (l : Launch) (Z : State) (a0 : Array Value) (ns : Addr) (hG : Glob Z a0 ns) (ws : List Jvm.Cond) (q1 : Int64) (q2 : Int64) (h0 : Heap) (n0 : Nat) (Z0 : n0 ≤ h0.size) (X00 : Old Z n0 h0) :
    MetFree l y23 (head1 (Jvm.Cond.code y23 method_6_code 4 (some .long) :: ws) ({ frames := 0, cells := 0, slots := 0, locals := 0 } : Room)) (fun a U => a = #[(.long q1), (.long q2)] ∧ Z.Warmed39 U.vm ∧ U.heap = h0) (fun _ _ _ _ _ => True) (fun _ U o U' => ∃ v L, o = .returned v ∧ Qlavg Z ns q1 q2 h0 n0 v U'.heap L ∧ FrameEnd U o U' L ({ frames := 0, cells := 0, slots := 0, locals := 0 } : Room).cells ({ frames := 0, cells := 0, slots := 0, locals := 0 } : Room).slots) := by
  by_cases h : q2 = (0 : Int64)
  · exact rmlavg_z l Z a0 ns hG ws q1 q2 h0 n0 Z0 X00 h
  · exact rmlavg_n l Z a0 ns hG ws q1 q2 h0 n0 Z0 X00 h
theorem dx_method_3_code_0 : decode method_3_code 0 = .ok (.iload_n 1, 1) := by decide +kernel
theorem dx_method_3_code_1 : decode method_3_code 1 = .ok (.iconst 1, 1) := by decide +kernel
theorem dx_method_3_code_2 : decode method_3_code 2 = .ok (.iand, 1) := by decide +kernel
theorem dx_method_3_code_3 : decode method_3_code 3 = .ok (.ifCond .eq 8, 3) := by decide +kernel
theorem dx_method_3_code_6 : decode method_3_code 6 = .ok (.aload_n 0, 1) := by decide +kernel
theorem dx_method_3_code_7 : decode method_3_code 7 = .ok (.lload_n 2, 1) := by decide +kernel
theorem dx_method_3_code_8 : decode method_3_code 8 = .ok (.invokevirtual 66, 3) := by decide +kernel
theorem dx_method_3_code_11 : decode method_3_code 11 = .ok (.iload_n 1, 1) := by decide +kernel
theorem dx_method_3_code_12 : decode method_3_code 12 = .ok (.iconst 2, 1) := by decide +kernel
theorem dx_method_3_code_13 : decode method_3_code 13 = .ok (.iand, 1) := by decide +kernel
theorem dx_method_3_code_14 : decode method_3_code 14 = .ok (.ifCond .eq 9, 3) := by decide +kernel
theorem dx_method_3_code_17 : decode method_3_code 17 = .ok (.aload_n 0, 1) := by decide +kernel
theorem dx_method_3_code_18 : decode method_3_code 18 = .ok (.lload 4, 2) := by decide +kernel
theorem dx_method_3_code_20 : decode method_3_code 20 = .ok (.invokevirtual 70, 3) := by decide +kernel
theorem dx_method_3_code_23 : decode method_3_code 23 = .ok (.iload_n 1, 1) := by decide +kernel
theorem dx_method_3_code_24 : decode method_3_code 24 = .ok (.iconst 4, 1) := by decide +kernel
theorem dx_method_3_code_25 : decode method_3_code 25 = .ok (.iand, 1) := by decide +kernel
theorem dx_method_3_code_26 : decode method_3_code 26 = .ok (.ifCond .eq 7, 3) := by decide +kernel
theorem dx_method_3_code_29 : decode method_3_code 29 = .ok (.aload_n 0, 1) := by decide +kernel
theorem dx_method_3_code_30 : decode method_3_code 30 = .ok (.invokevirtual 73, 3) := by decide +kernel
theorem pd___V : parseMethodDescriptor "()V" = some ⟨[], none⟩ := by decide +kernel
theorem dx_method_3_code_33 : decode method_3_code 33 = .ok (.iload_n 1, 1) := by decide +kernel
theorem dx_method_3_code_34 : decode method_3_code 34 = .ok (.bipush 8, 2) := by decide +kernel
theorem dx_method_3_code_36 : decode method_3_code 36 = .ok (.iand, 1) := by decide +kernel
theorem dx_method_3_code_37 : decode method_3_code 37 = .ok (.ifCond .eq 7, 3) := by decide +kernel
theorem dx_method_3_code_40 : decode method_3_code 40 = .ok (.aload_n 0, 1) := by decide +kernel
theorem dx_method_3_code_41 : decode method_3_code 41 = .ok (.invokevirtual 76, 3) := by decide +kernel
theorem dx_method_3_code_44 : decode method_3_code 44 = .ok (.iload_n 1, 1) := by decide +kernel
theorem dx_method_3_code_45 : decode method_3_code 45 = .ok (.bipush 16, 2) := by decide +kernel
theorem dx_method_3_code_47 : decode method_3_code 47 = .ok (.iand, 1) := by decide +kernel
theorem dx_method_3_code_48 : decode method_3_code 48 = .ok (.ifCond .eq 9, 3) := by decide +kernel
theorem dx_method_3_code_51 : decode method_3_code 51 = .ok (.aload_n 0, 1) := by decide +kernel
theorem dx_method_3_code_52 : decode method_3_code 52 = .ok (.lload 6, 2) := by decide +kernel
theorem dx_method_3_code_54 : decode method_3_code 54 = .ok (.invokevirtual 79, 3) := by decide +kernel
theorem dx_method_3_code_57 : decode method_3_code 57 = .ok (.iload_n 1, 1) := by decide +kernel
theorem dx_method_3_code_58 : decode method_3_code 58 = .ok (.bipush 32, 2) := by decide +kernel
theorem dx_method_3_code_60 : decode method_3_code 60 = .ok (.iand, 1) := by decide +kernel
theorem dx_method_3_code_61 : decode method_3_code 61 = .ok (.ifCond .eq 9, 3) := by decide +kernel
theorem dx_method_3_code_64 : decode method_3_code 64 = .ok (.aload_n 0, 1) := by decide +kernel
theorem dx_method_3_code_65 : decode method_3_code 65 = .ok (.lload 8, 2) := by decide +kernel
theorem dx_method_3_code_67 : decode method_3_code 67 = .ok (.invokevirtual 82, 3) := by decide +kernel
set_option maxRecDepth 65536 in
set_option maxHeartbeats 40000000 in
theorem sgfl0_t {p : Program} {l : Launch} {e : Env} {s : State} {m : MethodId} {args : Array Value} {below : List Frame} {meth : Method} {c : Code} {T0 : State} {locs : List Loc} (Z : State) (a0 : Array Value) (ns : Addr) (hG : Glob Z a0 ns) (a2 : Addr) (f : Int32) (q1 : Int64) (q2 : Int64) (q3 : Int64) (q4 : Int64) (c0 : Int64) (c1 : Int64) (c2 : Int64) (c3 : Int64) (c4 : Int64) (c5 : Int64) (c6 : Int64) (c7 : Int64) (c8 : Int64) (c9 : Int64) (h0 : Heap) (n0 : Nat) (Z0 : n0 ≤ h0.size) (X00 : Old Z n0 h0) (E_a2 : Exa Z h0 a2 "com/example/cistern/cistern/PoolState$Counters") (g_a2 : n0 ≤ a2) (F_requestCount_a2 : Fld Z h0 a2 "com/example/cistern/cistern/PoolState$Counters" "requestCount" "J" (.long c0)) (F_requestNanos_a2 : Fld Z h0 a2 "com/example/cistern/cistern/PoolState$Counters" "requestNanos" "J" (.long c1)) (F_hadToWaitCount_a2 : Fld Z h0 a2 "com/example/cistern/cistern/PoolState$Counters" "hadToWaitCount" "J" (.long c2)) (F_waitNanos_a2 : Fld Z h0 a2 "com/example/cistern/cistern/PoolState$Counters" "waitNanos" "J" (.long c3)) (F_badConnectionCount_a2 : Fld Z h0 a2 "com/example/cistern/cistern/PoolState$Counters" "badConnectionCount" "J" (.long c4)) (F_claimedOverdueCount_a2 : Fld Z h0 a2 "com/example/cistern/cistern/PoolState$Counters" "claimedOverdueCount" "J" (.long c5)) (F_overdueCheckoutNanos_a2 : Fld Z h0 a2 "com/example/cistern/cistern/PoolState$Counters" "overdueCheckoutNanos" "J" (.long c6)) (F_checkoutCount_a2 : Fld Z h0 a2 "com/example/cistern/cistern/PoolState$Counters" "checkoutCount" "J" (.long c7)) (F_checkoutNanos_a2 : Fld Z h0 a2 "com/example/cistern/cistern/PoolState$Counters" "checkoutNanos" "J" (.long c8)) (F_connectionsOpened_a2 : Fld Z h0 a2 "com/example/cistern/cistern/PoolState$Counters" "connectionsOpened" "J" (.long c9)) (hc3 : (f &&& (1 : Int32)) = (0 : Int32)) (X0 : Stand p l e ({ frames := 2, cells := 0, slots := 0, locals := 28 } : Room) s m args below meth c T0 locs 0 0) (hx : p.tables.exec = Jvm.exec) (hZ : Z.Warmed39 s.vm) (hby : c.code = method_3_code) (hml : c.maxLocals = 10) (hown : s.vm.findClass "com/example/cistern/cistern/CountersAddPinLaw" = some m.cls) (e0 : T0.heap = h0) (N0 : Fr n0 locs) :
    ∃ (T' : State) (L' : List Loc), Stand p l e ({ frames := 2, cells := 0, slots := 0, locals := 28 } : Room) s m args below meth c T' L' 0 0 ∧ Fr n0 L' ∧ Keep h0 T'.heap [a2] ∧ Exa Z T'.heap a2 "com/example/cistern/cistern/PoolState$Counters" ∧ Fld Z T'.heap a2 "com/example/cistern/cistern/PoolState$Counters" "requestCount" "J" (.long (if (f &&& (1 : Int32)) = (0 : Int32) then c0 else (c0 + (1 : Int64)))) ∧ Fld Z T'.heap a2 "com/example/cistern/cistern/PoolState$Counters" "requestNanos" "J" (.long (if (f &&& (1 : Int32)) = (0 : Int32) then c1 else (c1 + q1))) ∧ Fld Z T'.heap a2 "com/example/cistern/cistern/PoolState$Counters" "hadToWaitCount" "J" (.long c2) ∧ Fld Z T'.heap a2 "com/example/cistern/cistern/PoolState$Counters" "waitNanos" "J" (.long c3) ∧ Fld Z T'.heap a2 "com/example/cistern/cistern/PoolState$Counters" "badConnectionCount" "J" (.long c4) ∧ Fld Z T'.heap a2 "com/example/cistern/cistern/PoolState$Counters" "claimedOverdueCount" "J" (.long c5) ∧ Fld Z T'.heap a2 "com/example/cistern/cistern/PoolState$Counters" "overdueCheckoutNanos" "J" (.long c6) ∧ Fld Z T'.heap a2 "com/example/cistern/cistern/PoolState$Counters" "checkoutCount" "J" (.long c7) ∧ Fld Z T'.heap a2 "com/example/cistern/cistern/PoolState$Counters" "checkoutNanos" "J" (.long c8) ∧ Fld Z T'.heap a2 "com/example/cistern/cistern/PoolState$Counters" "connectionsOpened" "J" (.long c9) ∧ ∀ target, Steps p.tables e below (T'.setTop (mkF m 11 #[.val (.ref a2), .val (.int f), .val (.long q1), .second, .val (.long q2), .second, .val (.long q3), .second, .val (.long q4), .second] [])) target → Steps p.tables e below (T0.setTop (mkF m 0 #[.val (.ref a2), .val (.int f), .val (.long q1), .second, .val (.long q2), .second, .val (.long q3), .second, .val (.long q4), .second] [])) target := by
  obtain ⟨hw, O_ns, O_ens, O_scale, O_ratio⟩ := id hG
  have W : ∀ (i : Nat) {d : Jvm.Cond}, tables_1[i]? = some d → d.before a0 Z = true := fun i d h => hw d (List.mem_of_getElem? h)
  refine ⟨T0, _, X0, N0, ?_⟩
  rw [e0]
  refine ⟨(Keep.refl h0 [a2]), E_a2, (own_ipos hc3 F_requestCount_a2), (own_ipos hc3 F_requestNanos_a2), F_hadToWaitCount_a2, F_waitNanos_a2, F_badConnectionCount_a2, F_claimedOverdueCount_a2, F_overdueCheckoutNanos_a2, F_checkoutCount_a2, F_checkoutNanos_a2, F_connectionsOpened_a2, fun target kt => ?_⟩
  show Steps p.tables e below (T0.setTop (mkF m 0 #[.val (.ref a2), .val (.int f), .val (.long q1), .second, .val (.long q2), .second, .val (.long q3), .second, .val (.long q4), .second] [])) _
  refine XS.iloadN X0.here hx rfl (hb hby dx_method_3_code_0) rfl ?_
  show Steps p.tables e below (T0.setTop (mkF m 1 #[.val (.ref a2), .val (.int f), .val (.long q1), .second, .val (.long q2), .second, .val (.long q3), .second, .val (.long q4), .second] [(.int f)])) _
  refine XS.iconst X0.here hx rfl (hb hby dx_method_3_code_1) ?_
  show Steps p.tables e below (T0.setTop (mkF m 2 #[.val (.ref a2), .val (.int f), .val (.long q1), .second, .val (.long q2), .second, .val (.long q3), .second, .val (.long q4), .second] [(.int (1 : Int32)), (.int f)])) _
  refine XS.iand X0.here hx rfl (hb hby dx_method_3_code_2) rfl ?_
  show Steps p.tables e below (T0.setTop (mkF m 3 #[.val (.ref a2), .val (.int f), .val (.long q1), .second, .val (.long q2), .second, .val (.long q3), .second, .val (.long q4), .second] [(.int (f &&& (1 : Int32)))])) _
  refine XS.ifYes X0.here hx rfl (pc0 := 3) (pc' := 11) rfl (hb hby dx_method_3_code_3) rfl ((if0 _ _).trans (teq (hc3 : (f &&& (1 : Int32)) = (0 : Int32))).1) (by decide) (by decide) ?_
  exact kt
set_option maxRecDepth 65536 in
set_option maxHeartbeats 40000000 in
theorem sgfl0_f {p : Program} {l : Launch} {e : Env} {s : State} {m : MethodId} {args : Array Value} {below : List Frame} {meth : Method} {c : Code} {T0 : State} {locs : List Loc} (Z : State) (a0 : Array Value) (ns : Addr) (hG : Glob Z a0 ns) (a2 : Addr) (f : Int32) (q1 : Int64) (q2 : Int64) (q3 : Int64) (q4 : Int64) (c0 : Int64) (c1 : Int64) (c2 : Int64) (c3 : Int64) (c4 : Int64) (c5 : Int64) (c6 : Int64) (c7 : Int64) (c8 : Int64) (c9 : Int64) (h0 : Heap) (n0 : Nat) (Z0 : n0 ≤ h0.size) (X00 : Old Z n0 h0) (E_a2 : Exa Z h0 a2 "com/example/cistern/cistern/PoolState$Counters") (g_a2 : n0 ≤ a2) (F_requestCount_a2 : Fld Z h0 a2 "com/example/cistern/cistern/PoolState$Counters" "requestCount" "J" (.long c0)) (F_requestNanos_a2 : Fld Z h0 a2 "com/example/cistern/cistern/PoolState$Counters" "requestNanos" "J" (.long c1)) (F_hadToWaitCount_a2 : Fld Z h0 a2 "com/example/cistern/cistern/PoolState$Counters" "hadToWaitCount" "J" (.long c2)) (F_waitNanos_a2 : Fld Z h0 a2 "com/example/cistern/cistern/PoolState$Counters" "waitNanos" "J" (.long c3)) (F_badConnectionCount_a2 : Fld Z h0 a2 "com/example/cistern/cistern/PoolState$Counters" "badConnectionCount" "J" (.long c4)) (F_claimedOverdueCount_a2 : Fld Z h0 a2 "com/example/cistern/cistern/PoolState$Counters" "claimedOverdueCount" "J" (.long c5)) (F_overdueCheckoutNanos_a2 : Fld Z h0 a2 "com/example/cistern/cistern/PoolState$Counters" "overdueCheckoutNanos" "J" (.long c6)) (F_checkoutCount_a2 : Fld Z h0 a2 "com/example/cistern/cistern/PoolState$Counters" "checkoutCount" "J" (.long c7)) (F_checkoutNanos_a2 : Fld Z h0 a2 "com/example/cistern/cistern/PoolState$Counters" "checkoutNanos" "J" (.long c8)) (F_connectionsOpened_a2 : Fld Z h0 a2 "com/example/cistern/cistern/PoolState$Counters" "connectionsOpened" "J" (.long c9)) (hc3 : ¬ ((f &&& (1 : Int32)) = (0 : Int32))) (X0 : Stand p l e ({ frames := 2, cells := 0, slots := 0, locals := 28 } : Room) s m args below meth c T0 locs 0 0) (hx : p.tables.exec = Jvm.exec) (hZ : Z.Warmed39 s.vm) (hby : c.code = method_3_code) (hml : c.maxLocals = 10) (hown : s.vm.findClass "com/example/cistern/cistern/CountersAddPinLaw" = some m.cls) (e0 : T0.heap = h0) (N0 : Fr n0 locs) :
    ∃ (T' : State) (L' : List Loc), Stand p l e ({ frames := 2, cells := 0, slots := 0, locals := 28 } : Room) s m args below meth c T' L' 0 0 ∧ Fr n0 L' ∧ Keep h0 T'.heap [a2] ∧ Exa Z T'.heap a2 "com/example/cistern/cistern/PoolState$Counters" ∧ Fld Z T'.heap a2 "com/example/cistern/cistern/PoolState$Counters" "requestCount" "J" (.long (if (f &&& (1 : Int32)) = (0 : Int32) then c0 else (c0 + (1 : Int64)))) ∧ Fld Z T'.heap a2 "com/example/cistern/cistern/PoolState$Counters" "requestNanos" "J" (.long (if (f &&& (1 : Int32)) = (0 : Int32) then c1 else (c1 + q1))) ∧ Fld Z T'.heap a2 "com/example/cistern/cistern/PoolState$Counters" "hadToWaitCount" "J" (.long c2) ∧ Fld Z T'.heap a2 "com/example/cistern/cistern/PoolState$Counters" "waitNanos" "J" (.long c3) ∧ Fld Z T'.heap a2 "com/example/cistern/cistern/PoolState$Counters" "badConnectionCount" "J" (.long c4) ∧ Fld Z T'.heap a2 "com/example/cistern/cistern/PoolState$Counters" "claimedOverdueCount" "J" (.long c5) ∧ Fld Z T'.heap a2 "com/example/cistern/cistern/PoolState$Counters" "overdueCheckoutNanos" "J" (.long c6) ∧ Fld Z T'.heap a2 "com/example/cistern/cistern/PoolState$Counters" "checkoutCount" "J" (.long c7) ∧ Fld Z T'.heap a2 "com/example/cistern/cistern/PoolState$Counters" "checkoutNanos" "J" (.long c8) ∧ Fld Z T'.heap a2 "com/example/cistern/cistern/PoolState$Counters" "connectionsOpened" "J" (.long c9) ∧ ∀ target, Steps p.tables e below (T'.setTop (mkF m 11 #[.val (.ref a2), .val (.int f), .val (.long q1), .second, .val (.long q2), .second, .val (.long q3), .second, .val (.long q4), .second] [])) target → Steps p.tables e below (T0.setTop (mkF m 0 #[.val (.ref a2), .val (.int f), .val (.long q1), .second, .val (.long q2), .second, .val (.long q3), .second, .val (.long q4), .second] [])) target := by
  obtain ⟨hw, O_ns, O_ens, O_scale, O_ratio⟩ := id hG
  have W : ∀ (i : Nat) {d : Jvm.Cond}, tables_1[i]? = some d → d.before a0 Z = true := fun i d h => hw d (List.mem_of_getElem? h)
  obtain ⟨cq281, kq281, q281a, q281b, q281c⟩ := isOf hZ e0 E_a2
  -- pc 8: com/example/cistern/cistern/PoolState$Counters.lent
  obtain ⟨_, _, ⟨T281, L281, k281, n281⟩, -, X281, ⟨Lc281, hQ281, l281, y281, z281⟩, st281⟩ := X0.virtualBack hx (y := y14) (z := y14) hown (mvT hZ (W 180 rfl)) (mvT hZ (W 181 rfl)) (notFace_of_selects (args := #[]) (mvT hZ (W 183 rfl))) (mvT hZ (W 183 rfl)) (mvT hZ (W 182 rfl)) (by decide) (backOf (W := 0) (rmlent l Z a0 ns hG [] a2 q1 c0 c1 c2 c3 c4 c5 c6 c7 c8 c9 h0 n0 Z0 X00 E_a2 g_a2 F_requestCount_a2 F_requestNanos_a2 F_hadToWaitCount_a2 F_waitNanos_a2 F_badConnectionCount_a2 F_claimedOverdueCount_a2 F_overdueCheckoutNanos_a2 F_checkoutCount_a2 F_checkoutNanos_a2 F_connectionsOpened_a2) hZ (W 184 rfl) (W 2 rfl) (by decide) (by decide)) q281a q281c (g := (mkF m 8 #[.val (.ref a2), .val (.int f), .val (.long q1), .second, .val (.long q2), .second, .val (.long q3), .second, .val (.long q4), .second] [(.long q1), (.ref a2)])) rfl (by rw [hml]; rfl) (Steps.refl _) (argsL := [(.long q1)]) (rest := []) (lenOf pd__J_V rfl) rfl (by show 2 * 0 + _ ≤ _; exact Nat.le_of_eq rfl) (hb hby dx_method_3_code_8) (fun _ _ => ⟨rfl, e0, (by decide : 0 + 0 ≤ _), (by decide : 0 + 0 ≤ _)⟩)
  dsimp only [Pt.U, Pt.locs, Pt.cells, Pt.slots] at X281 l281 y281 z281 st281 hQ281
  subst l281 y281 z281
  obtain ⟨rfl, N281q, K281, f281_0, f281_1, f281_2, f281_3, f281_4, f281_5, f281_6, f281_7, f281_8, f281_9, f281_10⟩ := hQ281
  have N281 := Fr.app N0 N281q
  have Z282 : n0 ≤ T281.heap.size := Nat.le_trans Z0 K281.1
  have K0_282 : Keep h0 T281.heap [a2] := (Keep.refl h0 [a2]).trans K281 (allS (Or.inl (List.mem_of_getElem? (i := 0) rfl)) all0)
  have O282 : Old Z n0 T281.heap := X00.keep K281 (allS g_a2 all0)
  refine ⟨T281, _, X281, N281, ?_⟩
  refine ⟨K0_282, f281_0, (own_ineg hc3 f281_1), (own_ineg hc3 f281_2), f281_3, f281_4, f281_5, f281_6, f281_7, f281_8, f281_9, f281_10, fun target kt => ?_⟩
  show Steps p.tables e below (T0.setTop (mkF m 0 #[.val (.ref a2), .val (.int f), .val (.long q1), .second, .val (.long q2), .second, .val (.long q3), .second, .val (.long q4), .second] [])) _
  refine XS.iloadN X0.here hx rfl (hb hby dx_method_3_code_0) rfl ?_
  show Steps p.tables e below (T0.setTop (mkF m 1 #[.val (.ref a2), .val (.int f), .val (.long q1), .second, .val (.long q2), .second, .val (.long q3), .second, .val (.long q4), .second] [(.int f)])) _
  refine XS.iconst X0.here hx rfl (hb hby dx_method_3_code_1) ?_
  show Steps p.tables e below (T0.setTop (mkF m 2 #[.val (.ref a2), .val (.int f), .val (.long q1), .second, .val (.long q2), .second, .val (.long q3), .second, .val (.long q4), .second] [(.int (1 : Int32)), (.int f)])) _
  refine XS.iand X0.here hx rfl (hb hby dx_method_3_code_2) rfl ?_
  show Steps p.tables e below (T0.setTop (mkF m 3 #[.val (.ref a2), .val (.int f), .val (.long q1), .second, .val (.long q2), .second, .val (.long q3), .second, .val (.long q4), .second] [(.int (f &&& (1 : Int32)))])) _
  refine XS.ifNo X0.here hx rfl (hb hby dx_method_3_code_3) rfl ((if0 _ _).trans (feq (hc3 : ¬ ((f &&& (1 : Int32)) = (0 : Int32)))).1) ?_
  show Steps p.tables e below (T0.setTop (mkF m 6 #[.val (.ref a2), .val (.int f), .val (.long q1), .second, .val (.long q2), .second, .val (.long q3), .second, .val (.long q4), .second] [])) _
  refine XS.aloadN X0.here hx rfl (hb hby dx_method_3_code_6) rfl rfl ?_
  show Steps p.tables e below (T0.setTop (mkF m 7 #[.val (.ref a2), .val (.int f), .val (.long q1), .second, .val (.long q2), .second, .val (.long q3), .second, .val (.long q4), .second] [(.ref a2)])) _
  refine XS.lloadN X0.here hx rfl (hb hby dx_method_3_code_7) rfl ?_
  show Steps p.tables e below (T0.setTop (mkF m 8 #[.val (.ref a2), .val (.int f), .val (.long q1), .second, .val (.long q2), .second, .val (.long q3), .second, .val (.long q4), .second] [(.long q1), (.ref a2)])) _
  refine st281.trans ?_
  exact kt
set_option maxRecDepth 65536 in
theorem sgfl0 {p : Program} {l : Launch} {e : Env} {s : State} {m : MethodId} {args : Array Value} {below : List Frame} {meth : Method} {c : Code} {T0 : State} {locs : List Loc} (Z : State) (a0 : Array Value) (ns : Addr) (hG : Glob Z a0 ns) (a2 : Addr) (f : Int32) (q1 : Int64) (q2 : Int64) (q3 : Int64) (q4 : Int64) (c0 : Int64) (c1 : Int64) (c2 : Int64) (c3 : Int64) (c4 : Int64) (c5 : Int64) (c6 : Int64) (c7 : Int64) (c8 : Int64) (c9 : Int64) (h0 : Heap) (n0 : Nat) (Z0 : n0 ≤ h0.size) (X00 : Old Z n0 h0) (E_a2 : Exa Z h0 a2 "com/example/cistern/cistern/PoolState$Counters") (g_a2 : n0 ≤ a2) (F_requestCount_a2 : Fld Z h0 a2 "com/example/cistern/cistern/PoolState$Counters" "requestCount" "J" (.long c0)) (F_requestNanos_a2 : Fld Z h0 a2 "com/example/cistern/cistern/PoolState$Counters" "requestNanos" "J" (.long c1)) (F_hadToWaitCount_a2 : Fld Z h0 a2 "com/example/cistern/cistern/PoolState$Counters" "hadToWaitCount" "J" (.long c2)) (F_waitNanos_a2 : Fld Z h0 a2 "com/example/cistern/cistern/PoolState$Counters" "waitNanos" "J" (.long c3)) (F_badConnectionCount_a2 : Fld Z h0 a2 "com/example/cistern/cistern/PoolState$Counters" "badConnectionCount" "J" (.long c4)) (F_claimedOverdueCount_a2 : Fld Z h0 a2 "com/example/cistern/cistern/PoolState$Counters" "claimedOverdueCount" "J" (.long c5)) (F_overdueCheckoutNanos_a2 : Fld Z h0 a2 "com/example/cistern/cistern/PoolState$Counters" "overdueCheckoutNanos" "J" (.long c6)) (F_checkoutCount_a2 : Fld Z h0 a2 "com/example/cistern/cistern/PoolState$Counters" "checkoutCount" "J" (.long c7)) (F_checkoutNanos_a2 : Fld Z h0 a2 "com/example/cistern/cistern/PoolState$Counters" "checkoutNanos" "J" (.long c8)) (F_connectionsOpened_a2 : Fld Z h0 a2 "com/example/cistern/cistern/PoolState$Counters" "connectionsOpened" "J" (.long c9)) (X0 : Stand p l e ({ frames := 2, cells := 0, slots := 0, locals := 28 } : Room) s m args below meth c T0 locs 0 0) (hx : p.tables.exec = Jvm.exec) (hZ : Z.Warmed39 s.vm) (hby : c.code = method_3_code) (hml : c.maxLocals = 10) (hown : s.vm.findClass "com/example/cistern/cistern/CountersAddPinLaw" = some m.cls) (e0 : T0.heap = h0) (N0 : Fr n0 locs) :
    ∃ (T' : State) (L' : List Loc), Stand p l e ({ frames := 2, cells := 0, slots := 0, locals := 28 } : Room) s m args below meth c T' L' 0 0 ∧ Fr n0 L' ∧ Keep h0 T'.heap [a2] ∧ Exa Z T'.heap a2 "com/example/cistern/cistern/PoolState$Counters" ∧ Fld Z T'.heap a2 "com/example/cistern/cistern/PoolState$Counters" "requestCount" "J" (.long (if (f &&& (1 : Int32)) = (0 : Int32) then c0 else (c0 + (1 : Int64)))) ∧ Fld Z T'.heap a2 "com/example/cistern/cistern/PoolState$Counters" "requestNanos" "J" (.long (if (f &&& (1 : Int32)) = (0 : Int32) then c1 else (c1 + q1))) ∧ Fld Z T'.heap a2 "com/example/cistern/cistern/PoolState$Counters" "hadToWaitCount" "J" (.long c2) ∧ Fld Z T'.heap a2 "com/example/cistern/cistern/PoolState$Counters" "waitNanos" "J" (.long c3) ∧ Fld Z T'.heap a2 "com/example/cistern/cistern/PoolState$Counters" "badConnectionCount" "J" (.long c4) ∧ Fld Z T'.heap a2 "com/example/cistern/cistern/PoolState$Counters" "claimedOverdueCount" "J" (.long c5) ∧ Fld Z T'.heap a2 "com/example/cistern/cistern/PoolState$Counters" "overdueCheckoutNanos" "J" (.long c6) ∧ Fld Z T'.heap a2 "com/example/cistern/cistern/PoolState$Counters" "checkoutCount" "J" (.long c7) ∧ Fld Z T'.heap a2 "com/example/cistern/cistern/PoolState$Counters" "checkoutNanos" "J" (.long c8) ∧ Fld Z T'.heap a2 "com/example/cistern/cistern/PoolState$Counters" "connectionsOpened" "J" (.long c9) ∧ ∀ target, Steps p.tables e below (T'.setTop (mkF m 11 #[.val (.ref a2), .val (.int f), .val (.long q1), .second, .val (.long q2), .second, .val (.long q3), .second, .val (.long q4), .second] [])) target → Steps p.tables e below (T0.setTop (mkF m 0 #[.val (.ref a2), .val (.int f), .val (.long q1), .second, .val (.long q2), .second, .val (.long q3), .second, .val (.long q4), .second] [])) target := by
  by_cases h : (f &&& (1 : Int32)) = (0 : Int32)
  · exact sgfl0_t Z a0 ns hG a2 f q1 q2 q3 q4 c0 c1 c2 c3 c4 c5 c6 c7 c8 c9 h0 n0 Z0 X00 E_a2 g_a2 F_requestCount_a2 F_requestNanos_a2 F_hadToWaitCount_a2 F_waitNanos_a2 F_badConnectionCount_a2 F_claimedOverdueCount_a2 F_overdueCheckoutNanos_a2 F_checkoutCount_a2 F_checkoutNanos_a2 F_connectionsOpened_a2 h X0 hx hZ hby hml hown e0 N0
  · exact sgfl0_f Z a0 ns hG a2 f q1 q2 q3 q4 c0 c1 c2 c3 c4 c5 c6 c7 c8 c9 h0 n0 Z0 X00 E_a2 g_a2 F_requestCount_a2 F_requestNanos_a2 F_hadToWaitCount_a2 F_waitNanos_a2 F_badConnectionCount_a2 F_claimedOverdueCount_a2 F_overdueCheckoutNanos_a2 F_checkoutCount_a2 F_checkoutNanos_a2 F_connectionsOpened_a2 h X0 hx hZ hby hml hown e0 N0
set_option maxRecDepth 65536 in
set_option maxHeartbeats 40000000 in
theorem sgfl1_t {p : Program} {l : Launch} {e : Env} {s : State} {m : MethodId} {args : Array Value} {below : List Frame} {meth : Method} {c : Code} {T0 : State} {locs : List Loc} (Z : State) (a0 : Array Value) (ns : Addr) (hG : Glob Z a0 ns) (a2 : Addr) (f : Int32) (q1 : Int64) (q2 : Int64) (q3 : Int64) (q4 : Int64) (c0 : Int64) (c1 : Int64) (c2 : Int64) (c3 : Int64) (c4 : Int64) (c5 : Int64) (c6 : Int64) (c7 : Int64) (c8 : Int64) (c9 : Int64) (h0 : Heap) (n0 : Nat) (Z0 : n0 ≤ h0.size) (X00 : Old Z n0 h0) (E_a2 : Exa Z h0 a2 "com/example/cistern/cistern/PoolState$Counters") (g_a2 : n0 ≤ a2) (F_requestCount_a2 : Fld Z h0 a2 "com/example/cistern/cistern/PoolState$Counters" "requestCount" "J" (.long c0)) (F_requestNanos_a2 : Fld Z h0 a2 "com/example/cistern/cistern/PoolState$Counters" "requestNanos" "J" (.long c1)) (F_hadToWaitCount_a2 : Fld Z h0 a2 "com/example/cistern/cistern/PoolState$Counters" "hadToWaitCount" "J" (.long c2)) (F_waitNanos_a2 : Fld Z h0 a2 "com/example/cistern/cistern/PoolState$Counters" "waitNanos" "J" (.long c3)) (F_badConnectionCount_a2 : Fld Z h0 a2 "com/example/cistern/cistern/PoolState$Counters" "badConnectionCount" "J" (.long c4)) (F_claimedOverdueCount_a2 : Fld Z h0 a2 "com/example/cistern/cistern/PoolState$Counters" "claimedOverdueCount" "J" (.long c5)) (F_overdueCheckoutNanos_a2 : Fld Z h0 a2 "com/example/cistern/cistern/PoolState$Counters" "overdueCheckoutNanos" "J" (.long c6)) (F_checkoutCount_a2 : Fld Z h0 a2 "com/example/cistern/cistern/PoolState$Counters" "checkoutCount" "J" (.long c7)) (F_checkoutNanos_a2 : Fld Z h0 a2 "com/example/cistern/cistern/PoolState$Counters" "checkoutNanos" "J" (.long c8)) (F_connectionsOpened_a2 : Fld Z h0 a2 "com/example/cistern/cistern/PoolState$Counters" "connectionsOpened" "J" (.long c9)) (hc14 : (f &&& (2 : Int32)) = (0 : Int32)) (X0 : Stand p l e ({ frames := 2, cells := 0, slots := 0, locals := 28 } : Room) s m args below meth c T0 locs 0 0) (hx : p.tables.exec = Jvm.exec) (hZ : Z.Warmed39 s.vm) (hby : c.code = method_3_code) (hml : c.maxLocals = 10) (hown : s.vm.findClass "com/example/cistern/cistern/CountersAddPinLaw" = some m.cls) (e0 : T0.heap = h0) (N0 : Fr n0 locs) :
    ∃ (T' : State) (L' : List Loc), Stand p l e ({ frames := 2, cells := 0, slots := 0, locals := 28 } : Room) s m args below meth c T' L' 0 0 ∧ Fr n0 L' ∧ Keep h0 T'.heap [a2] ∧ Exa Z T'.heap a2 "com/example/cistern/cistern/PoolState$Counters" ∧ Fld Z T'.heap a2 "com/example/cistern/cistern/PoolState$Counters" "requestCount" "J" (.long c0) ∧ Fld Z T'.heap a2 "com/example/cistern/cistern/PoolState$Counters" "requestNanos" "J" (.long c1) ∧ Fld Z T'.heap a2 "com/example/cistern/cistern/PoolState$Counters" "hadToWaitCount" "J" (.long (if (f &&& (2 : Int32)) = (0 : Int32) then c2 else (c2 + (1 : Int64)))) ∧ Fld Z T'.heap a2 "com/example/cistern/cistern/PoolState$Counters" "waitNanos" "J" (.long (if (f &&& (2 : Int32)) = (0 : Int32) then c3 else (c3 + q2))) ∧ Fld Z T'.heap a2 "com/example/cistern/cistern/PoolState$Counters" "badConnectionCount" "J" (.long c4) ∧ Fld Z T'.heap a2 "com/example/cistern/cistern/PoolState$Counters" "claimedOverdueCount" "J" (.long c5) ∧ Fld Z T'.heap a2 "com/example/cistern/cistern/PoolState$Counters" "overdueCheckoutNanos" "J" (.long c6) ∧ Fld Z T'.heap a2 "com/example/cistern/cistern/PoolState$Counters" "checkoutCount" "J" (.long c7) ∧ Fld Z T'.heap a2 "com/example/cistern/cistern/PoolState$Counters" "checkoutNanos" "J" (.long c8) ∧ Fld Z T'.heap a2 "com/example/cistern/cistern/PoolState$Counters" "connectionsOpened" "J" (.long c9) ∧ ∀ target, Steps p.tables e below (T'.setTop (mkF m 23 #[.val (.ref a2), .val (.int f), .val (.long q1), .second, .val (.long q2), .second, .val (.long q3), .second, .val (.long q4), .second] [])) target → Steps p.tables e below (T0.setTop (mkF m 11 #[.val (.ref a2), .val (.int f), .val (.long q1), .second, .val (.long q2), .second, .val (.long q3), .second, .val (.long q4), .second] [])) target := by
  obtain ⟨hw, O_ns, O_ens, O_scale, O_ratio⟩ := id hG
  have W : ∀ (i : Nat) {d : Jvm.Cond}, tables_1[i]? = some d → d.before a0 Z = true := fun i d h => hw d (List.mem_of_getElem? h)
  refine ⟨T0, _, X0, N0, ?_⟩
  rw [e0]
  refine ⟨(Keep.refl h0 [a2]), E_a2, F_requestCount_a2, F_requestNanos_a2, (own_ipos hc14 F_hadToWaitCount_a2), (own_ipos hc14 F_waitNanos_a2), F_badConnectionCount_a2, F_claimedOverdueCount_a2, F_overdueCheckoutNanos_a2, F_checkoutCount_a2, F_checkoutNanos_a2, F_connectionsOpened_a2, fun target kt => ?_⟩
  show Steps p.tables e below (T0.setTop (mkF m 11 #[.val (.ref a2), .val (.int f), .val (.long q1), .second, .val (.long q2), .second, .val (.long q3), .second, .val (.long q4), .second] [])) _
  refine XS.iloadN X0.here hx rfl (hb hby dx_method_3_code_11) rfl ?_
  show Steps p.tables e below (T0.setTop (mkF m 12 #[.val (.ref a2), .val (.int f), .val (.long q1), .second, .val (.long q2), .second, .val (.long q3), .second, .val (.long q4), .second] [(.int f)])) _
  refine XS.iconst X0.here hx rfl (hb hby dx_method_3_code_12) ?_
  show Steps p.tables e below (T0.setTop (mkF m 13 #[.val (.ref a2), .val (.int f), .val (.long q1), .second, .val (.long q2), .second, .val (.long q3), .second, .val (.long q4), .second] [(.int (2 : Int32)), (.int f)])) _
  refine XS.iand X0.here hx rfl (hb hby dx_method_3_code_13) rfl ?_
  show Steps p.tables e below (T0.setTop (mkF m 14 #[.val (.ref a2), .val (.int f), .val (.long q1), .second, .val (.long q2), .second, .val (.long q3), .second, .val (.long q4), .second] [(.int (f &&& (2 : Int32)))])) _
  refine XS.ifYes X0.here hx rfl (pc0 := 14) (pc' := 23) rfl (hb hby dx_method_3_code_14) rfl ((if0 _ _).trans (teq (hc14 : (f &&& (2 : Int32)) = (0 : Int32))).1) (by decide) (by decide) ?_
  exact kt
set_option maxRecDepth 65536 in
set_option maxHeartbeats 40000000 in
theorem sgfl1_f {p : Program} {l : Launch} {e : Env} {s : State} {m : MethodId} {args : Array Value} {below : List Frame} {meth : Method} {c : Code} {T0 : State} {locs : List Loc} (Z : State) (a0 : Array Value) (ns : Addr) (hG : Glob Z a0 ns) (a2 : Addr) (f : Int32) (q1 : Int64) (q2 : Int64) (q3 : Int64) (q4 : Int64) (c0 : Int64) (c1 : Int64) (c2 : Int64) (c3 : Int64) (c4 : Int64) (c5 : Int64) (c6 : Int64) (c7 : Int64) (c8 : Int64) (c9 : Int64) (h0 : Heap) (n0 : Nat) (Z0 : n0 ≤ h0.size) (X00 : Old Z n0 h0) (E_a2 : Exa Z h0 a2 "com/example/cistern/cistern/PoolState$Counters") (g_a2 : n0 ≤ a2) (F_requestCount_a2 : Fld Z h0 a2 "com/example/cistern/cistern/PoolState$Counters" "requestCount" "J" (.long c0)) (F_requestNanos_a2 : Fld Z h0 a2 "com/example/cistern/cistern/PoolState$Counters" "requestNanos" "J" (.long c1)) (F_hadToWaitCount_a2 : Fld Z h0 a2 "com/example/cistern/cistern/PoolState$Counters" "hadToWaitCount" "J" (.long c2)) (F_waitNanos_a2 : Fld Z h0 a2 "com/example/cistern/cistern/PoolState$Counters" "waitNanos" "J" (.long c3)) (F_badConnectionCount_a2 : Fld Z h0 a2 "com/example/cistern/cistern/PoolState$Counters" "badConnectionCount" "J" (.long c4)) (F_claimedOverdueCount_a2 : Fld Z h0 a2 "com/example/cistern/cistern/PoolState$Counters" "claimedOverdueCount" "J" (.long c5)) (F_overdueCheckoutNanos_a2 : Fld Z h0 a2 "com/example/cistern/cistern/PoolState$Counters" "overdueCheckoutNanos" "J" (.long c6)) (F_checkoutCount_a2 : Fld Z h0 a2 "com/example/cistern/cistern/PoolState$Counters" "checkoutCount" "J" (.long c7)) (F_checkoutNanos_a2 : Fld Z h0 a2 "com/example/cistern/cistern/PoolState$Counters" "checkoutNanos" "J" (.long c8)) (F_connectionsOpened_a2 : Fld Z h0 a2 "com/example/cistern/cistern/PoolState$Counters" "connectionsOpened" "J" (.long c9)) (hc14 : ¬ ((f &&& (2 : Int32)) = (0 : Int32))) (X0 : Stand p l e ({ frames := 2, cells := 0, slots := 0, locals := 28 } : Room) s m args below meth c T0 locs 0 0) (hx : p.tables.exec = Jvm.exec) (hZ : Z.Warmed39 s.vm) (hby : c.code = method_3_code) (hml : c.maxLocals = 10) (hown : s.vm.findClass "com/example/cistern/cistern/CountersAddPinLaw" = some m.cls) (e0 : T0.heap = h0) (N0 : Fr n0 locs) :
    ∃ (T' : State) (L' : List Loc), Stand p l e ({ frames := 2, cells := 0, slots := 0, locals := 28 } : Room) s m args below meth c T' L' 0 0 ∧ Fr n0 L' ∧ Keep h0 T'.heap [a2] ∧ Exa Z T'.heap a2 "com/example/cistern/cistern/PoolState$Counters" ∧ Fld Z T'.heap a2 "com/example/cistern/cistern/PoolState$Counters" "requestCount" "J" (.long c0) ∧ Fld Z T'.heap a2 "com/example/cistern/cistern/PoolState$Counters" "requestNanos" "J" (.long c1) ∧ Fld Z T'.heap a2 "com/example/cistern/cistern/PoolState$Counters" "hadToWaitCount" "J" (.long (if (f &&& (2 : Int32)) = (0 : Int32) then c2 else (c2 + (1 : Int64)))) ∧ Fld Z T'.heap a2 "com/example/cistern/cistern/PoolState$Counters" "waitNanos" "J" (.long (if (f &&& (2 : Int32)) = (0 : Int32) then c3 else (c3 + q2))) ∧ Fld Z T'.heap a2 "com/example/cistern/cistern/PoolState$Counters" "badConnectionCount" "J" (.long c4) ∧ Fld Z T'.heap a2 "com/example/cistern/cistern/PoolState$Counters" "claimedOverdueCount" "J" (.long c5) ∧ Fld Z T'.heap a2 "com/example/cistern/cistern/PoolState$Counters" "overdueCheckoutNanos" "J" (.long c6) ∧ Fld Z T'.heap a2 "com/example/cistern/cistern/PoolState$Counters" "checkoutCount" "J" (.long c7) ∧ Fld Z T'.heap a2 "com/example/cistern/cistern/PoolState$Counters" "checkoutNanos" "J" (.long c8) ∧ Fld Z T'.heap a2 "com/example/cistern/cistern/PoolState$Counters" "connectionsOpened" "J" (.long c9) ∧ ∀ target, Steps p.tables e below (T'.setTop (mkF m 23 #[.val (.ref a2), .val (.int f), .val (.long q1), .second, .val (.long q2), .second, .val (.long q3), .second, .val (.long q4), .second] [])) target → Steps p.tables e below (T0.setTop (mkF m 11 #[.val (.ref a2), .val (.int f), .val (.long q1), .second, .val (.long q2), .second, .val (.long q3), .second, .val (.long q4), .second] [])) target := by
  obtain ⟨hw, O_ns, O_ens, O_scale, O_ratio⟩ := id hG
  have W : ∀ (i : Nat) {d : Jvm.Cond}, tables_1[i]? = some d → d.before a0 Z = true := fun i d h => hw d (List.mem_of_getElem? h)
  obtain ⟨cq283, kq283, q283a, q283b, q283c⟩ := isOf hZ e0 E_a2
  -- pc 20: com/example/cistern/cistern/PoolState$Counters.waited
  obtain ⟨_, _, ⟨T283, L283, k283, n283⟩, -, X283, ⟨Lc283, hQ283, l283, y283, z283⟩, st283⟩ := X0.virtualBack hx (y := y15) (z := y15) hown (mvT hZ (W 13 rfl)) (mvT hZ (W 14 rfl)) (notFace_of_selects (args := #[]) (mvT hZ (W 16 rfl))) (mvT hZ (W 16 rfl)) (mvT hZ (W 15 rfl)) (by decide) (backOf (W := 0) (rmwaited l Z a0 ns hG [] a2 q2 c0 c1 c2 c3 c4 c5 c6 c7 c8 c9 h0 n0 Z0 X00 E_a2 g_a2 F_requestCount_a2 F_requestNanos_a2 F_hadToWaitCount_a2 F_waitNanos_a2 F_badConnectionCount_a2 F_claimedOverdueCount_a2 F_overdueCheckoutNanos_a2 F_checkoutCount_a2 F_checkoutNanos_a2 F_connectionsOpened_a2) hZ (W 17 rfl) (W 2 rfl) (by decide) (by decide)) q283a q283c (g := (mkF m 20 #[.val (.ref a2), .val (.int f), .val (.long q1), .second, .val (.long q2), .second, .val (.long q3), .second, .val (.long q4), .second] [(.long q2), (.ref a2)])) rfl (by rw [hml]; rfl) (Steps.refl _) (argsL := [(.long q2)]) (rest := []) (lenOf pd__J_V rfl) rfl (by show 2 * 0 + _ ≤ _; exact Nat.le_of_eq rfl) (hb hby dx_method_3_code_20) (fun _ _ => ⟨rfl, e0, (by decide : 0 + 0 ≤ _), (by decide : 0 + 0 ≤ _)⟩)
  dsimp only [Pt.U, Pt.locs, Pt.cells, Pt.slots] at X283 l283 y283 z283 st283 hQ283
  subst l283 y283 z283
  obtain ⟨rfl, N283q, K283, f283_0, f283_1, f283_2, f283_3, f283_4, f283_5, f283_6, f283_7, f283_8, f283_9, f283_10⟩ := hQ283
  have N283 := Fr.app N0 N283q
  have Z284 : n0 ≤ T283.heap.size := Nat.le_trans Z0 K283.1
  have K0_284 : Keep h0 T283.heap [a2] := (Keep.refl h0 [a2]).trans K283 (allS (Or.inl (List.mem_of_getElem? (i := 0) rfl)) all0)
  have O284 : Old Z n0 T283.heap := X00.keep K283 (allS g_a2 all0)
  refine ⟨T283, _, X283, N283, ?_⟩
  refine ⟨K0_284, f283_0, f283_1, f283_2, (own_ineg hc14 f283_3), (own_ineg hc14 f283_4), f283_5, f283_6, f283_7, f283_8, f283_9, f283_10, fun target kt => ?_⟩
  show Steps p.tables e below (T0.setTop (mkF m 11 #[.val (.ref a2), .val (.int f), .val (.long q1), .second, .val (.long q2), .second, .val (.long q3), .second, .val (.long q4), .second] [])) _
  refine XS.iloadN X0.here hx rfl (hb hby dx_method_3_code_11) rfl ?_
  show Steps p.tables e below (T0.setTop (mkF m 12 #[.val (.ref a2), .val (.int f), .val (.long q1), .second, .val (.long q2), .second, .val (.long q3), .second, .val (.long q4), .second] [(.int f)])) _
  refine XS.iconst X0.here hx rfl (hb hby dx_method_3_code_12) ?_
  show Steps p.tables e below (T0.setTop (mkF m 13 #[.val (.ref a2), .val (.int f), .val (.long q1), .second, .val (.long q2), .second, .val (.long q3), .second, .val (.long q4), .second] [(.int (2 : Int32)), (.int f)])) _
  refine XS.iand X0.here hx rfl (hb hby dx_method_3_code_13) rfl ?_
  show Steps p.tables e below (T0.setTop (mkF m 14 #[.val (.ref a2), .val (.int f), .val (.long q1), .second, .val (.long q2), .second, .val (.long q3), .second, .val (.long q4), .second] [(.int (f &&& (2 : Int32)))])) _
  refine XS.ifNo X0.here hx rfl (hb hby dx_method_3_code_14) rfl ((if0 _ _).trans (feq (hc14 : ¬ ((f &&& (2 : Int32)) = (0 : Int32)))).1) ?_
  show Steps p.tables e below (T0.setTop (mkF m 17 #[.val (.ref a2), .val (.int f), .val (.long q1), .second, .val (.long q2), .second, .val (.long q3), .second, .val (.long q4), .second] [])) _
  refine XS.aloadN X0.here hx rfl (hb hby dx_method_3_code_17) rfl rfl ?_
  show Steps p.tables e below (T0.setTop (mkF m 18 #[.val (.ref a2), .val (.int f), .val (.long q1), .second, .val (.long q2), .second, .val (.long q3), .second, .val (.long q4), .second] [(.ref a2)])) _
  refine XS.lload X0.here hx rfl (hb hby dx_method_3_code_18) rfl ?_
  show Steps p.tables e below (T0.setTop (mkF m 20 #[.val (.ref a2), .val (.int f), .val (.long q1), .second, .val (.long q2), .second, .val (.long q3), .second, .val (.long q4), .second] [(.long q2), (.ref a2)])) _
  refine st283.trans ?_
  exact kt
set_option maxRecDepth 65536 in
theorem sgfl1 {p : Program} {l : Launch} {e : Env} {s : State} {m : MethodId} {args : Array Value} {below : List Frame} {meth : Method} {c : Code} {T0 : State} {locs : List Loc} (Z : State) (a0 : Array Value) (ns : Addr) (hG : Glob Z a0 ns) (a2 : Addr) (f : Int32) (q1 : Int64) (q2 : Int64) (q3 : Int64) (q4 : Int64) (c0 : Int64) (c1 : Int64) (c2 : Int64) (c3 : Int64) (c4 : Int64) (c5 : Int64) (c6 : Int64) (c7 : Int64) (c8 : Int64) (c9 : Int64) (h0 : Heap) (n0 : Nat) (Z0 : n0 ≤ h0.size) (X00 : Old Z n0 h0) (E_a2 : Exa Z h0 a2 "com/example/cistern/cistern/PoolState$Counters") (g_a2 : n0 ≤ a2) (F_requestCount_a2 : Fld Z h0 a2 "com/example/cistern/cistern/PoolState$Counters" "requestCount" "J" (.long c0)) (F_requestNanos_a2 : Fld Z h0 a2 "com/example/cistern/cistern/PoolState$Counters" "requestNanos" "J" (.long c1)) (F_hadToWaitCount_a2 : Fld Z h0 a2 "com/example/cistern/cistern/PoolState$Counters" "hadToWaitCount" "J" (.long c2)) (F_waitNanos_a2 : Fld Z h0 a2 "com/example/cistern/cistern/PoolState$Counters" "waitNanos" "J" (.long c3)) (F_badConnectionCount_a2 : Fld Z h0 a2 "com/example/cistern/cistern/PoolState$Counters" "badConnectionCount" "J" (.long c4)) (F_claimedOverdueCount_a2 : Fld Z h0 a2 "com/example/cistern/cistern/PoolState$Counters" "claimedOverdueCount" "J" (.long c5)) (F_overdueCheckoutNanos_a2 : Fld Z h0 a2 "com/example/cistern/cistern/PoolState$Counters" "overdueCheckoutNanos" "J" (.long c6)) (F_checkoutCount_a2 : Fld Z h0 a2 "com/example/cistern/cistern/PoolState$Counters" "checkoutCount" "J" (.long c7)) (F_checkoutNanos_a2 : Fld Z h0 a2 "com/example/cistern/cistern/PoolState$Counters" "checkoutNanos" "J" (.long c8)) (F_connectionsOpened_a2 : Fld Z h0 a2 "com/example/cistern/cistern/PoolState$Counters" "connectionsOpened" "J" (.long c9)) (X0 : Stand p l e ({ frames := 2, cells := 0, slots := 0, locals := 28 } : Room) s m args below meth c T0 locs 0 0) (hx : p.tables.exec = Jvm.exec) (hZ : Z.Warmed39 s.vm) (hby : c.code = method_3_code) (hml : c.maxLocals = 10) (hown : s.vm.findClass "com/example/cistern/cistern/CountersAddPinLaw" = some m.cls) (e0 : T0.heap = h0) (N0 : Fr n0 locs) :
    ∃ (T' : State) (L' : List Loc), Stand p l e ({ frames := 2, cells := 0, slots := 0, locals := 28 } : Room) s m args below meth c T' L' 0 0 ∧ Fr n0 L' ∧ Keep h0 T'.heap [a2] ∧ Exa Z T'.heap a2 "com/example/cistern/cistern/PoolState$Counters" ∧ Fld Z T'.heap a2 "com/example/cistern/cistern/PoolState$Counters" "requestCount" "J" (.long c0) ∧ Fld Z T'.heap a2 "com/example/cistern/cistern/PoolState$Counters" "requestNanos" "J" (.long c1) ∧ Fld Z T'.heap a2 "com/example/cistern/cistern/PoolState$Counters" "hadToWaitCount" "J" (.long (if (f &&& (2 : Int32)) = (0 : Int32) then c2 else (c2 + (1 : Int64)))) ∧ Fld Z T'.heap a2 "com/example/cistern/cistern/PoolState$Counters" "waitNanos" "J" (.long (if (f &&& (2 : Int32)) = (0 : Int32) then c3 else (c3 + q2))) ∧ Fld Z T'.heap a2 "com/example/cistern/cistern/PoolState$Counters" "badConnectionCount" "J" (.long c4) ∧ Fld Z T'.heap a2 "com/example/cistern/cistern/PoolState$Counters" "claimedOverdueCount" "J" (.long c5) ∧ Fld Z T'.heap a2 "com/example/cistern/cistern/PoolState$Counters" "overdueCheckoutNanos" "J" (.long c6) ∧ Fld Z T'.heap a2 "com/example/cistern/cistern/PoolState$Counters" "checkoutCount" "J" (.long c7) ∧ Fld Z T'.heap a2 "com/example/cistern/cistern/PoolState$Counters" "checkoutNanos" "J" (.long c8) ∧ Fld Z T'.heap a2 "com/example/cistern/cistern/PoolState$Counters" "connectionsOpened" "J" (.long c9) ∧ ∀ target, Steps p.tables e below (T'.setTop (mkF m 23 #[.val (.ref a2), .val (.int f), .val (.long q1), .second, .val (.long q2), .second, .val (.long q3), .second, .val (.long q4), .second] [])) target → Steps p.tables e below (T0.setTop (mkF m 11 #[.val (.ref a2), .val (.int f), .val (.long q1), .second, .val (.long q2), .second, .val (.long q3), .second, .val (.long q4), .second] [])) target := by
  by_cases h : (f &&& (2 : Int32)) = (0 : Int32)
  · exact sgfl1_t Z a0 ns hG a2 f q1 q2 q3 q4 c0 c1 c2 c3 c4 c5 c6 c7 c8 c9 h0 n0 Z0 X00 E_a2 g_a2 F_requestCount_a2 F_requestNanos_a2 F_hadToWaitCount_a2 F_waitNanos_a2 F_badConnectionCount_a2 F_claimedOverdueCount_a2 F_overdueCheckoutNanos_a2 F_checkoutCount_a2 F_checkoutNanos_a2 F_connectionsOpened_a2 h X0 hx hZ hby hml hown e0 N0
  · exact sgfl1_f Z a0 ns hG a2 f q1 q2 q3 q4 c0 c1 c2 c3 c4 c5 c6 c7 c8 c9 h0 n0 Z0 X00 E_a2 g_a2 F_requestCount_a2 F_requestNanos_a2 F_hadToWaitCount_a2 F_waitNanos_a2 F_badConnectionCount_a2 F_claimedOverdueCount_a2 F_overdueCheckoutNanos_a2 F_checkoutCount_a2 F_checkoutNanos_a2 F_connectionsOpened_a2 h X0 hx hZ hby hml hown e0 N0
set_option maxRecDepth 65536 in
set_option maxHeartbeats 40000000 in
theorem sgfl2_t {p : Program} {l : Launch} {e : Env} {s : State} {m : MethodId} {args : Array Value} {below : List Frame} {meth : Method} {c : Code} {T0 : State} {locs : List Loc} (Z : State) (a0 : Array Value) (ns : Addr) (hG : Glob Z a0 ns) (a2 : Addr) (f : Int32) (q1 : Int64) (q2 : Int64) (q3 : Int64) (q4 : Int64) (c0 : Int64) (c1 : Int64) (c2 : Int64) (c3 : Int64) (c4 : Int64) (c5 : Int64) (c6 : Int64) (c7 : Int64) (c8 : Int64) (c9 : Int64) (h0 : Heap) (n0 : Nat) (Z0 : n0 ≤ h0.size) (X00 : Old Z n0 h0) (E_a2 : Exa Z h0 a2 "com/example/cistern/cistern/PoolState$Counters") (g_a2 : n0 ≤ a2) (F_requestCount_a2 : Fld Z h0 a2 "com/example/cistern/cistern/PoolState$Counters" "requestCount" "J" (.long c0)) (F_requestNanos_a2 : Fld Z h0 a2 "com/example/cistern/cistern/PoolState$Counters" "requestNanos" "J" (.long c1)) (F_hadToWaitCount_a2 : Fld Z h0 a2 "com/example/cistern/cistern/PoolState$Counters" "hadToWaitCount" "J" (.long c2)) (F_waitNanos_a2 : Fld Z h0 a2 "com/example/cistern/cistern/PoolState$Counters" "waitNanos" "J" (.long c3)) (F_badConnectionCount_a2 : Fld Z h0 a2 "com/example/cistern/cistern/PoolState$Counters" "badConnectionCount" "J" (.long c4)) (F_claimedOverdueCount_a2 : Fld Z h0 a2 "com/example/cistern/cistern/PoolState$Counters" "claimedOverdueCount" "J" (.long c5)) (F_overdueCheckoutNanos_a2 : Fld Z h0 a2 "com/example/cistern/cistern/PoolState$Counters" "overdueCheckoutNanos" "J" (.long c6)) (F_checkoutCount_a2 : Fld Z h0 a2 "com/example/cistern/cistern/PoolState$Counters" "checkoutCount" "J" (.long c7)) (F_checkoutNanos_a2 : Fld Z h0 a2 "com/example/cistern/cistern/PoolState$Counters" "checkoutNanos" "J" (.long c8)) (F_connectionsOpened_a2 : Fld Z h0 a2 "com/example/cistern/cistern/PoolState$Counters" "connectionsOpened" "J" (.long c9)) (hc26 : (f &&& (4 : Int32)) = (0 : Int32)) (X0 : Stand p l e ({ frames := 2, cells := 0, slots := 0, locals := 28 } : Room) s m args below meth c T0 locs 0 0) (hx : p.tables.exec = Jvm.exec) (hZ : Z.Warmed39 s.vm) (hby : c.code = method_3_code) (hml : c.maxLocals = 10) (hown : s.vm.findClass "com/example/cistern/cistern/CountersAddPinLaw" = some m.cls) (e0 : T0.heap = h0) (N0 : Fr n0 locs) :
    ∃ (T' : State) (L' : List Loc), Stand p l e ({ frames := 2, cells := 0, slots := 0, locals := 28 } : Room) s m args below meth c T' L' 0 0 ∧ Fr n0 L' ∧ Keep h0 T'.heap [a2] ∧ Exa Z T'.heap a2 "com/example/cistern/cistern/PoolState$Counters" ∧ Fld Z T'.heap a2 "com/example/cistern/cistern/PoolState$Counters" "requestCount" "J" (.long c0) ∧ Fld Z T'.heap a2 "com/example/cistern/cistern/PoolState$Counters" "requestNanos" "J" (.long c1) ∧ Fld Z T'.heap a2 "com/example/cistern/cistern/PoolState$Counters" "hadToWaitCount" "J" (.long c2) ∧ Fld Z T'.heap a2 "com/example/cistern/cistern/PoolState$Counters" "waitNanos" "J" (.long c3) ∧ Fld Z T'.heap a2 "com/example/cistern/cistern/PoolState$Counters" "badConnectionCount" "J" (.long (if (f &&& (4 : Int32)) = (0 : Int32) then c4 else (c4 + (1 : Int64)))) ∧ Fld Z T'.heap a2 "com/example/cistern/cistern/PoolState$Counters" "claimedOverdueCount" "J" (.long c5) ∧ Fld Z T'.heap a2 "com/example/cistern/cistern/PoolState$Counters" "overdueCheckoutNanos" "J" (.long c6) ∧ Fld Z T'.heap a2 "com/example/cistern/cistern/PoolState$Counters" "checkoutCount" "J" (.long c7) ∧ Fld Z T'.heap a2 "com/example/cistern/cistern/PoolState$Counters" "checkoutNanos" "J" (.long c8) ∧ Fld Z T'.heap a2 "com/example/cistern/cistern/PoolState$Counters" "connectionsOpened" "J" (.long c9) ∧ ∀ target, Steps p.tables e below (T'.setTop (mkF m 33 #[.val (.ref a2), .val (.int f), .val (.long q1), .second, .val (.long q2), .second, .val (.long q3), .second, .val (.long q4), .second] [])) target → Steps p.tables e below (T0.setTop (mkF m 23 #[.val (.ref a2), .val (.int f), .val (.long q1), .second, .val (.long q2), .second, .val (.long q3), .second, .val (.long q4), .second] [])) target := by
  obtain ⟨hw, O_ns, O_ens, O_scale, O_ratio⟩ := id hG
  have W : ∀ (i : Nat) {d : Jvm.Cond}, tables_1[i]? = some d → d.before a0 Z = true := fun i d h => hw d (List.mem_of_getElem? h)
  refine ⟨T0, _, X0, N0, ?_⟩
  rw [e0]
  refine ⟨(Keep.refl h0 [a2]), E_a2, F_requestCount_a2, F_requestNanos_a2, F_hadToWaitCount_a2, F_waitNanos_a2, (own_ipos hc26 F_badConnectionCount_a2), F_claimedOverdueCount_a2, F_overdueCheckoutNanos_a2, F_checkoutCount_a2, F_checkoutNanos_a2, F_connectionsOpened_a2, fun target kt => ?_⟩
  show Steps p.tables e below (T0.setTop (mkF m 23 #[.val (.ref a2), .val (.int f), .val (.long q1), .second, .val (.long q2), .second, .val (.long q3), .second, .val (.long q4), .second] [])) _
  refine XS.iloadN X0.here hx rfl (hb hby dx_method_3_code_23) rfl ?_
  show Steps p.tables e below (T0.setTop (mkF m 24 #[.val (.ref a2), .val (.int f), .val (.long q1), .second, .val (.long q2), .second, .val (.long q3), .second, .val (.long q4), .second] [(.int f)])) _
  refine XS.iconst X0.here hx rfl (hb hby dx_method_3_code_24) ?_
  show Steps p.tables e below (T0.setTop (mkF m 25 #[.val (.ref a2), .val (.int f), .val (.long q1), .second, .val (.long q2), .second, .val (.long q3), .second, .val (.long q4), .second] [(.int (4 : Int32)), (.int f)])) _
  refine XS.iand X0.here hx rfl (hb hby dx_method_3_code_25) rfl ?_
  show Steps p.tables e below (T0.setTop (mkF m 26 #[.val (.ref a2), .val (.int f), .val (.long q1), .second, .val (.long q2), .second, .val (.long q3), .second, .val (.long q4), .second] [(.int (f &&& (4 : Int32)))])) _
  refine XS.ifYes X0.here hx rfl (pc0 := 26) (pc' := 33) rfl (hb hby dx_method_3_code_26) rfl ((if0 _ _).trans (teq (hc26 : (f &&& (4 : Int32)) = (0 : Int32))).1) (by decide) (by decide) ?_
  exact kt
set_option maxRecDepth 65536 in
set_option maxHeartbeats 40000000 in
theorem sgfl2_f {p : Program} {l : Launch} {e : Env} {s : State} {m : MethodId} {args : Array Value} {below : List Frame} {meth : Method} {c : Code} {T0 : State} {locs : List Loc} (Z : State) (a0 : Array Value) (ns : Addr) (hG : Glob Z a0 ns) (a2 : Addr) (f : Int32) (q1 : Int64) (q2 : Int64) (q3 : Int64) (q4 : Int64) (c0 : Int64) (c1 : Int64) (c2 : Int64) (c3 : Int64) (c4 : Int64) (c5 : Int64) (c6 : Int64) (c7 : Int64) (c8 : Int64) (c9 : Int64) (h0 : Heap) (n0 : Nat) (Z0 : n0 ≤ h0.size) (X00 : Old Z n0 h0) (E_a2 : Exa Z h0 a2 "com/example/cistern/cistern/PoolState$Counters") (g_a2 : n0 ≤ a2) (F_requestCount_a2 : Fld Z h0 a2 "com/example/cistern/cistern/PoolState$Counters" "requestCount" "J" (.long c0)) (F_requestNanos_a2 : Fld Z h0 a2 "com/example/cistern/cistern/PoolState$Counters" "requestNanos" "J" (.long c1)) (F_hadToWaitCount_a2 : Fld Z h0 a2 "com/example/cistern/cistern/PoolState$Counters" "hadToWaitCount" "J" (.long c2)) (F_waitNanos_a2 : Fld Z h0 a2 "com/example/cistern/cistern/PoolState$Counters" "waitNanos" "J" (.long c3)) (F_badConnectionCount_a2 : Fld Z h0 a2 "com/example/cistern/cistern/PoolState$Counters" "badConnectionCount" "J" (.long c4)) (F_claimedOverdueCount_a2 : Fld Z h0 a2 "com/example/cistern/cistern/PoolState$Counters" "claimedOverdueCount" "J" (.long c5)) (F_overdueCheckoutNanos_a2 : Fld Z h0 a2 "com/example/cistern/cistern/PoolState$Counters" "overdueCheckoutNanos" "J" (.long c6)) (F_checkoutCount_a2 : Fld Z h0 a2 "com/example/cistern/cistern/PoolState$Counters" "checkoutCount" "J" (.long c7)) (F_checkoutNanos_a2 : Fld Z h0 a2 "com/example/cistern/cistern/PoolState$Counters" "checkoutNanos" "J" (.long c8)) (F_connectionsOpened_a2 : Fld Z h0 a2 "com/example/cistern/cistern/PoolState$Counters" "connectionsOpened" "J" (.long c9)) (hc26 : ¬ ((f &&& (4 : Int32)) = (0 : Int32))) (X0 : Stand p l e ({ frames := 2, cells := 0, slots := 0, locals := 28 } : Room) s m args below meth c T0 locs 0 0) (hx : p.tables.exec = Jvm.exec) (hZ : Z.Warmed39 s.vm) (hby : c.code = method_3_code) (hml : c.maxLocals = 10) (hown : s.vm.findClass "com/example/cistern/cistern/CountersAddPinLaw" = some m.cls) (e0 : T0.heap = h0) (N0 : Fr n0 locs) :
    ∃ (T' : State) (L' : List Loc), Stand p l e ({ frames := 2, cells := 0, slots := 0, locals := 28 } : Room) s m args below meth c T' L' 0 0 ∧ Fr n0 L' ∧ Keep h0 T'.heap [a2] ∧ Exa Z T'.heap a2 "com/example/cistern/cistern/PoolState$Counters" ∧ Fld Z T'.heap a2 "com/example/cistern/cistern/PoolState$Counters" "requestCount" "J" (.long c0) ∧ Fld Z T'.heap a2 "com/example/cistern/cistern/PoolState$Counters" "requestNanos" "J" (.long c1) ∧ Fld Z T'.heap a2 "com/example/cistern/cistern/PoolState$Counters" "hadToWaitCount" "J" (.long c2) ∧ Fld Z T'.heap a2 "com/example/cistern/cistern/PoolState$Counters" "waitNanos" "J" (.long c3) ∧ Fld Z T'.heap a2 "com/example/cistern/cistern/PoolState$Counters" "badConnectionCount" "J" (.long (if (f &&& (4 : Int32)) = (0 : Int32) then c4 else (c4 + (1 : Int64)))) ∧ Fld Z T'.heap a2 "com/example/cistern/cistern/PoolState$Counters" "claimedOverdueCount" "J" (.long c5) ∧ Fld Z T'.heap a2 "com/example/cistern/cistern/PoolState$Counters" "overdueCheckoutNanos" "J" (.long c6) ∧ Fld Z T'.heap a2 "com/example/cistern/cistern/PoolState$Counters" "checkoutCount" "J" (.long c7) ∧ Fld Z T'.heap a2 "com/example/cistern/cistern/PoolState$Counters" "checkoutNanos" "J" (.long c8) ∧ Fld Z T'.heap a2 "com/example/cistern/cistern/PoolState$Counters" "connectionsOpened" "J" (.long c9) ∧ ∀ target, Steps p.tables e below (T'.setTop (mkF m 33 #[.val (.ref a2), .val (.int f), .val (.long q1), .second, .val (.long q2), .second, .val (.long q3), .second, .val (.long q4), .second] [])) target → Steps p.tables e below (T0.setTop (mkF m 23 #[.val (.ref a2), .val (.int f), .val (.long q1), .second, .val (.long q2), .second, .val (.long q3), .second, .val (.long q4), .second] [])) target := by
  obtain ⟨hw, O_ns, O_ens, O_scale, O_ratio⟩ := id hG
  have W : ∀ (i : Nat) {d : Jvm.Cond}, tables_1[i]? = some d → d.before a0 Z = true := fun i d h => hw d (List.mem_of_getElem? h)
  obtain ⟨cq285, kq285, q285a, q285b, q285c⟩ := isOf hZ e0 E_a2
  -- pc 30: com/example/cistern/cistern/PoolState$Counters.badConnection
  obtain ⟨_, _, ⟨T285, L285, k285, n285⟩, -, X285, ⟨Lc285, hQ285, l285, y285, z285⟩, st285⟩ := X0.virtualBack hx (y := y16) (z := y16) hown (mvT hZ (W 159 rfl)) (mvT hZ (W 160 rfl)) (notFace_of_selects (args := #[]) (mvT hZ (W 162 rfl))) (mvT hZ (W 162 rfl)) (mvT hZ (W 161 rfl)) (by decide) (backOf (W := 0) (rmbadConnection l Z a0 ns hG [] a2 c0 c1 c2 c3 c4 c5 c6 c7 c8 c9 h0 n0 Z0 X00 E_a2 g_a2 F_requestCount_a2 F_requestNanos_a2 F_hadToWaitCount_a2 F_waitNanos_a2 F_badConnectionCount_a2 F_claimedOverdueCount_a2 F_overdueCheckoutNanos_a2 F_checkoutCount_a2 F_checkoutNanos_a2 F_connectionsOpened_a2) hZ (W 163 rfl) (W 2 rfl) (by decide) (by decide)) q285a q285c (g := (mkF m 30 #[.val (.ref a2), .val (.int f), .val (.long q1), .second, .val (.long q2), .second, .val (.long q3), .second, .val (.long q4), .second] [(.ref a2)])) rfl (by rw [hml]; rfl) (Steps.refl _) (argsL := []) (rest := []) (lenOf pd___V rfl) rfl (by show 2 * 0 + _ ≤ _; exact Nat.le_of_eq rfl) (hb hby dx_method_3_code_30) (fun _ _ => ⟨rfl, e0, (by decide : 0 + 0 ≤ _), (by decide : 0 + 0 ≤ _)⟩)
  dsimp only [Pt.U, Pt.locs, Pt.cells, Pt.slots] at X285 l285 y285 z285 st285 hQ285
  subst l285 y285 z285
  obtain ⟨rfl, N285q, K285, f285_0, f285_1, f285_2, f285_3, f285_4, f285_5, f285_6, f285_7, f285_8, f285_9, f285_10⟩ := hQ285
  have N285 := Fr.app N0 N285q
  have Z286 : n0 ≤ T285.heap.size := Nat.le_trans Z0 K285.1
  have K0_286 : Keep h0 T285.heap [a2] := (Keep.refl h0 [a2]).trans K285 (allS (Or.inl (List.mem_of_getElem? (i := 0) rfl)) all0)
  have O286 : Old Z n0 T285.heap := X00.keep K285 (allS g_a2 all0)
  refine ⟨T285, _, X285, N285, ?_⟩
  refine ⟨K0_286, f285_0, f285_1, f285_2, f285_3, f285_4, (own_ineg hc26 f285_5), f285_6, f285_7, f285_8, f285_9, f285_10, fun target kt => ?_⟩
  show Steps p.tables e below (T0.setTop (mkF m 23 #[.val (.ref a2), .val (.int f), .val (.long q1), .second, .val (.long q2), .second, .val (.long q3), .second, .val (.long q4), .second] [])) _
  refine XS.iloadN X0.here hx rfl (hb hby dx_method_3_code_23) rfl ?_
  show Steps p.tables e below (T0.setTop (mkF m 24 #[.val (.ref a2), .val (.int f), .val (.long q1), .second, .val (.long q2), .second, .val (.long q3), .second, .val (.long q4), .second] [(.int f)])) _
  refine XS.iconst X0.here hx rfl (hb hby dx_method_3_code_24) ?_
  show Steps p.tables e below (T0.setTop (mkF m 25 #[.val (.ref a2), .val (.int f), .val (.long q1), .second, .val (.long q2), .second, .val (.long q3), .second, .val (.long q4), .second] [(.int (4 : Int32)), (.int f)])) _
  refine XS.iand X0.here hx rfl (hb hby dx_method_3_code_25) rfl ?_
  show Steps p.tables e below (T0.setTop (mkF m 26 #[.val (.ref a2), .val (.int f), .val (.long q1), .second, .val (.long q2), .second, .val (.long q3), .second, .val (.long q4), .second] [(.int (f &&& (4 : Int32)))])) _
  refine XS.ifNo X0.here hx rfl (hb hby dx_method_3_code_26) rfl ((if0 _ _).trans (feq (hc26 : ¬ ((f &&& (4 : Int32)) = (0 : Int32)))).1) ?_
  show Steps p.tables e below (T0.setTop (mkF m 29 #[.val (.ref a2), .val (.int f), .val (.long q1), .second, .val (.long q2), .second, .val (.long q3), .second, .val (.long q4), .second] [])) _
  refine XS.aloadN X0.here hx rfl (hb hby dx_method_3_code_29) rfl rfl ?_
  show Steps p.tables e below (T0.setTop (mkF m 30 #[.val (.ref a2), .val (.int f), .val (.long q1), .second, .val (.long q2), .second, .val (.long q3), .second, .val (.long q4), .second] [(.ref a2)])) _
  refine st285.trans ?_
  exact kt
set_option maxRecDepth 65536 in
theorem sgfl2 {p : Program} {l : Launch} {e : Env} {s : State} {m : MethodId} {args : Array Value} {below : List Frame} {meth : Method} {c : Code} {T0 : State} {locs : List Loc} (Z : State) (a0 : Array Value) (ns : Addr) (hG : Glob Z a0 ns) (a2 : Addr) (f : Int32) (q1 : Int64) (q2 : Int64) (q3 : Int64) (q4 : Int64) (c0 : Int64) (c1 : Int64) (c2 : Int64) (c3 : Int64) (c4 : Int64) (c5 : Int64) (c6 : Int64) (c7 : Int64) (c8 : Int64) (c9 : Int64) (h0 : Heap) (n0 : Nat) (Z0 : n0 ≤ h0.size) (X00 : Old Z n0 h0) (E_a2 : Exa Z h0 a2 "com/example/cistern/cistern/PoolState$Counters") (g_a2 : n0 ≤ a2) (F_requestCount_a2 : Fld Z h0 a2 "com/example/cistern/cistern/PoolState$Counters" "requestCount" "J" (.long c0)) (F_requestNanos_a2 : Fld Z h0 a2 "com/example/cistern/cistern/PoolState$Counters" "requestNanos" "J" (.long c1)) (F_hadToWaitCount_a2 : Fld Z h0 a2 "com/example/cistern/cistern/PoolState$Counters" "hadToWaitCount" "J" (.long c2)) (F_waitNanos_a2 : Fld Z h0 a2 "com/example/cistern/cistern/PoolState$Counters" "waitNanos" "J" (.long c3)) (F_badConnectionCount_a2 : Fld Z h0 a2 "com/example/cistern/cistern/PoolState$Counters" "badConnectionCount" "J" (.long c4)) (F_claimedOverdueCount_a2 : Fld Z h0 a2 "com/example/cistern/cistern/PoolState$Counters" "claimedOverdueCount" "J" (.long c5)) (F_overdueCheckoutNanos_a2 : Fld Z h0 a2 "com/example/cistern/cistern/PoolState$Counters" "overdueCheckoutNanos" "J" (.long c6)) (F_checkoutCount_a2 : Fld Z h0 a2 "com/example/cistern/cistern/PoolState$Counters" "checkoutCount" "J" (.long c7)) (F_checkoutNanos_a2 : Fld Z h0 a2 "com/example/cistern/cistern/PoolState$Counters" "checkoutNanos" "J" (.long c8)) (F_connectionsOpened_a2 : Fld Z h0 a2 "com/example/cistern/cistern/PoolState$Counters" "connectionsOpened" "J" (.long c9)) (X0 : Stand p l e ({ frames := 2, cells := 0, slots := 0, locals := 28 } : Room) s m args below meth c T0 locs 0 0) (hx : p.tables.exec = Jvm.exec) (hZ : Z.Warmed39 s.vm) (hby : c.code = method_3_code) (hml : c.maxLocals = 10) (hown : s.vm.findClass "com/example/cistern/cistern/CountersAddPinLaw" = some m.cls) (e0 : T0.heap = h0) (N0 : Fr n0 locs) :
    ∃ (T' : State) (L' : List Loc), Stand p l e ({ frames := 2, cells := 0, slots := 0, locals := 28 } : Room) s m args below meth c T' L' 0 0 ∧ Fr n0 L' ∧ Keep h0 T'.heap [a2] ∧ Exa Z T'.heap a2 "com/example/cistern/cistern/PoolState$Counters" ∧ Fld Z T'.heap a2 "com/example/cistern/cistern/PoolState$Counters" "requestCount" "J" (.long c0) ∧ Fld Z T'.heap a2 "com/example/cistern/cistern/PoolState$Counters" "requestNanos" "J" (.long c1) ∧ Fld Z T'.heap a2 "com/example/cistern/cistern/PoolState$Counters" "hadToWaitCount" "J" (.long c2) ∧ Fld Z T'.heap a2 "com/example/cistern/cistern/PoolState$Counters" "waitNanos" "J" (.long c3) ∧ Fld Z T'.heap a2 "com/example/cistern/cistern/PoolState$Counters" "badConnectionCount" "J" (.long (if (f &&& (4 : Int32)) = (0 : Int32) then c4 else (c4 + (1 : Int64)))) ∧ Fld Z T'.heap a2 "com/example/cistern/cistern/PoolState$Counters" "claimedOverdueCount" "J" (.long c5) ∧ Fld Z T'.heap a2 "com/example/cistern/cistern/PoolState$Counters" "overdueCheckoutNanos" "J" (.long c6) ∧ Fld Z T'.heap a2 "com/example/cistern/cistern/PoolState$Counters" "checkoutCount" "J" (.long c7) ∧ Fld Z T'.heap a2 "com/example/cistern/cistern/PoolState$Counters" "checkoutNanos" "J" (.long c8) ∧ Fld Z T'.heap a2 "com/example/cistern/cistern/PoolState$Counters" "connectionsOpened" "J" (.long c9) ∧ ∀ target, Steps p.tables e below (T'.setTop (mkF m 33 #[.val (.ref a2), .val (.int f), .val (.long q1), .second, .val (.long q2), .second, .val (.long q3), .second, .val (.long q4), .second] [])) target → Steps p.tables e below (T0.setTop (mkF m 23 #[.val (.ref a2), .val (.int f), .val (.long q1), .second, .val (.long q2), .second, .val (.long q3), .second, .val (.long q4), .second] [])) target := by
  by_cases h : (f &&& (4 : Int32)) = (0 : Int32)
  · exact sgfl2_t Z a0 ns hG a2 f q1 q2 q3 q4 c0 c1 c2 c3 c4 c5 c6 c7 c8 c9 h0 n0 Z0 X00 E_a2 g_a2 F_requestCount_a2 F_requestNanos_a2 F_hadToWaitCount_a2 F_waitNanos_a2 F_badConnectionCount_a2 F_claimedOverdueCount_a2 F_overdueCheckoutNanos_a2 F_checkoutCount_a2 F_checkoutNanos_a2 F_connectionsOpened_a2 h X0 hx hZ hby hml hown e0 N0
  · exact sgfl2_f Z a0 ns hG a2 f q1 q2 q3 q4 c0 c1 c2 c3 c4 c5 c6 c7 c8 c9 h0 n0 Z0 X00 E_a2 g_a2 F_requestCount_a2 F_requestNanos_a2 F_hadToWaitCount_a2 F_waitNanos_a2 F_badConnectionCount_a2 F_claimedOverdueCount_a2 F_overdueCheckoutNanos_a2 F_checkoutCount_a2 F_checkoutNanos_a2 F_connectionsOpened_a2 h X0 hx hZ hby hml hown e0 N0
set_option maxRecDepth 65536 in
set_option maxHeartbeats 40000000 in
theorem sgfl3_t {p : Program} {l : Launch} {e : Env} {s : State} {m : MethodId} {args : Array Value} {below : List Frame} {meth : Method} {c : Code} {T0 : State} {locs : List Loc} (Z : State) (a0 : Array Value) (ns : Addr) (hG : Glob Z a0 ns) (a2 : Addr) (f : Int32) (q1 : Int64) (q2 : Int64) (q3 : Int64) (q4 : Int64) (c0 : Int64) (c1 : Int64) (c2 : Int64) (c3 : Int64) (c4 : Int64) (c5 : Int64) (c6 : Int64) (c7 : Int64) (c8 : Int64) (c9 : Int64) (h0 : Heap) (n0 : Nat) (Z0 : n0 ≤ h0.size) (X00 : Old Z n0 h0) (E_a2 : Exa Z h0 a2 "com/example/cistern/cistern/PoolState$Counters") (g_a2 : n0 ≤ a2) (F_requestCount_a2 : Fld Z h0 a2 "com/example/cistern/cistern/PoolState$Counters" "requestCount" "J" (.long c0)) (F_requestNanos_a2 : Fld Z h0 a2 "com/example/cistern/cistern/PoolState$Counters" "requestNanos" "J" (.long c1)) (F_hadToWaitCount_a2 : Fld Z h0 a2 "com/example/cistern/cistern/PoolState$Counters" "hadToWaitCount" "J" (.long c2)) (F_waitNanos_a2 : Fld Z h0 a2 "com/example/cistern/cistern/PoolState$Counters" "waitNanos" "J" (.long c3)) (F_badConnectionCount_a2 : Fld Z h0 a2 "com/example/cistern/cistern/PoolState$Counters" "badConnectionCount" "J" (.long c4)) (F_claimedOverdueCount_a2 : Fld Z h0 a2 "com/example/cistern/cistern/PoolState$Counters" "claimedOverdueCount" "J" (.long c5)) (F_overdueCheckoutNanos_a2 : Fld Z h0 a2 "com/example/cistern/cistern/PoolState$Counters" "overdueCheckoutNanos" "J" (.long c6)) (F_checkoutCount_a2 : Fld Z h0 a2 "com/example/cistern/cistern/PoolState$Counters" "checkoutCount" "J" (.long c7)) (F_checkoutNanos_a2 : Fld Z h0 a2 "com/example/cistern/cistern/PoolState$Counters" "checkoutNanos" "J" (.long c8)) (F_connectionsOpened_a2 : Fld Z h0 a2 "com/example/cistern/cistern/PoolState$Counters" "connectionsOpened" "J" (.long c9)) (hc37 : (f &&& (8 : Int32)) = (0 : Int32)) (X0 : Stand p l e ({ frames := 2, cells := 0, slots := 0, locals := 28 } : Room) s m args below meth c T0 locs 0 0) (hx : p.tables.exec = Jvm.exec) (hZ : Z.Warmed39 s.vm) (hby : c.code = method_3_code) (hml : c.maxLocals = 10) (hown : s.vm.findClass "com/example/cistern/cistern/CountersAddPinLaw" = some m.cls) (e0 : T0.heap = h0) (N0 : Fr n0 locs) :
    ∃ (T' : State) (L' : List Loc), Stand p l e ({ frames := 2, cells := 0, slots := 0, locals := 28 } : Room) s m args below meth c T' L' 0 0 ∧ Fr n0 L' ∧ Keep h0 T'.heap [a2] ∧ Exa Z T'.heap a2 "com/example/cistern/cistern/PoolState$Counters" ∧ Fld Z T'.heap a2 "com/example/cistern/cistern/PoolState$Counters" "requestCount" "J" (.long c0) ∧ Fld Z T'.heap a2 "com/example/cistern/cistern/PoolState$Counters" "requestNanos" "J" (.long c1) ∧ Fld Z T'.heap a2 "com/example/cistern/cistern/PoolState$Counters" "hadToWaitCount" "J" (.long c2) ∧ Fld Z T'.heap a2 "com/example/cistern/cistern/PoolState$Counters" "waitNanos" "J" (.long c3) ∧ Fld Z T'.heap a2 "com/example/cistern/cistern/PoolState$Counters" "badConnectionCount" "J" (.long c4) ∧ Fld Z T'.heap a2 "com/example/cistern/cistern/PoolState$Counters" "claimedOverdueCount" "J" (.long c5) ∧ Fld Z T'.heap a2 "com/example/cistern/cistern/PoolState$Counters" "overdueCheckoutNanos" "J" (.long c6) ∧ Fld Z T'.heap a2 "com/example/cistern/cistern/PoolState$Counters" "checkoutCount" "J" (.long c7) ∧ Fld Z T'.heap a2 "com/example/cistern/cistern/PoolState$Counters" "checkoutNanos" "J" (.long c8) ∧ Fld Z T'.heap a2 "com/example/cistern/cistern/PoolState$Counters" "connectionsOpened" "J" (.long (if (f &&& (8 : Int32)) = (0 : Int32) then c9 else (c9 + (1 : Int64)))) ∧ ∀ target, Steps p.tables e below (T'.setTop (mkF m 44 #[.val (.ref a2), .val (.int f), .val (.long q1), .second, .val (.long q2), .second, .val (.long q3), .second, .val (.long q4), .second] [])) target → Steps p.tables e below (T0.setTop (mkF m 33 #[.val (.ref a2), .val (.int f), .val (.long q1), .second, .val (.long q2), .second, .val (.long q3), .second, .val (.long q4), .second] [])) target := by
  obtain ⟨hw, O_ns, O_ens, O_scale, O_ratio⟩ := id hG
  have W : ∀ (i : Nat) {d : Jvm.Cond}, tables_1[i]? = some d → d.before a0 Z = true := fun i d h => hw d (List.mem_of_getElem? h)
  refine ⟨T0, _, X0, N0, ?_⟩
  rw [e0]
  refine ⟨(Keep.refl h0 [a2]), E_a2, F_requestCount_a2, F_requestNanos_a2, F_hadToWaitCount_a2, F_waitNanos_a2, F_badConnectionCount_a2, F_claimedOverdueCount_a2, F_overdueCheckoutNanos_a2, F_checkoutCount_a2, F_checkoutNanos_a2, (own_ipos hc37 F_connectionsOpened_a2), fun target kt => ?_⟩
  show Steps p.tables e below (T0.setTop (mkF m 33 #[.val (.ref a2), .val (.int f), .val (.long q1), .second, .val (.long q2), .second, .val (.long q3), .second, .val (.long q4), .second] [])) _
  refine XS.iloadN X0.here hx rfl (hb hby dx_method_3_code_33) rfl ?_
  show Steps p.tables e below (T0.setTop (mkF m 34 #[.val (.ref a2), .val (.int f), .val (.long q1), .second, .val (.long q2), .second, .val (.long q3), .second, .val (.long q4), .second] [(.int f)])) _
  refine XS.bipush X0.here hx rfl (hb hby dx_method_3_code_34) ?_
  show Steps p.tables e below (T0.setTop (mkF m 36 #[.val (.ref a2), .val (.int f), .val (.long q1), .second, .val (.long q2), .second, .val (.long q3), .second, .val (.long q4), .second] [(.int (8 : Int32)), (.int f)])) _
  refine XS.iand X0.here hx rfl (hb hby dx_method_3_code_36) rfl ?_
  show Steps p.tables e below (T0.setTop (mkF m 37 #[.val (.ref a2), .val (.int f), .val (.long q1), .second, .val (.long q2), .second, .val (.long q3), .second, .val (.long q4), .second] [(.int (f &&& (8 : Int32)))])) _
  refine XS.ifYes X0.here hx rfl (pc0 := 37) (pc' := 44) rfl (hb hby dx_method_3_code_37) rfl ((if0 _ _).trans (teq (hc37 : (f &&& (8 : Int32)) = (0 : Int32))).1) (by decide) (by decide) ?_
  exact kt
set_option maxRecDepth 65536 in
set_option maxHeartbeats 40000000 in
theorem sgfl3_f {p : Program} {l : Launch} {e : Env} {s : State} {m : MethodId} {args : Array Value} {below : List Frame} {meth : Method} {c : Code} {T0 : State} {locs : List Loc} (Z : State) (a0 : Array Value) (ns : Addr) (hG : Glob Z a0 ns) (a2 : Addr) (f : Int32) (q1 : Int64) (q2 : Int64) (q3 : Int64) (q4 : Int64) (c0 : Int64) (c1 : Int64) (c2 : Int64) (c3 : Int64) (c4 : Int64) (c5 : Int64) (c6 : Int64) (c7 : Int64) (c8 : Int64) (c9 : Int64) (h0 : Heap) (n0 : Nat) (Z0 : n0 ≤ h0.size) (X00 : Old Z n0 h0) (E_a2 : Exa Z h0 a2 "com/example/cistern/cistern/PoolState$Counters") (g_a2 : n0 ≤ a2) (F_requestCount_a2 : Fld Z h0 a2 "com/example/cistern/cistern/PoolState$Counters" "requestCount" "J" (.long c0)) (F_requestNanos_a2 : Fld Z h0 a2 "com/example/cistern/cistern/PoolState$Counters" "requestNanos" "J" (.long c1)) (F_hadToWaitCount_a2 : Fld Z h0 a2 "com/example/cistern/cistern/PoolState$Counters" "hadToWaitCount" "J" (.long c2)) (F_waitNanos_a2 : Fld Z h0 a2 "com/example/cistern/cistern/PoolState$Counters" "waitNanos" "J" (.long c3)) (F_badConnectionCount_a2 : Fld Z h0 a2 "com/example/cistern/cistern/PoolState$Counters" "badConnectionCount" "J" (.long c4)) (F_claimedOverdueCount_a2 : Fld Z h0 a2 "com/example/cistern/cistern/PoolState$Counters" "claimedOverdueCount" "J" (.long c5)) (F_overdueCheckoutNanos_a2 : Fld Z h0 a2 "com/example/cistern/cistern/PoolState$Counters" "overdueCheckoutNanos" "J" (.long c6)) (F_checkoutCount_a2 : Fld Z h0 a2 "com/example/cistern/cistern/PoolState$Counters" "checkoutCount" "J" (.long c7)) (F_checkoutNanos_a2 : Fld Z h0 a2 "com/example/cistern/cistern/PoolState$Counters" "checkoutNanos" "J" (.long c8)) (F_connectionsOpened_a2 : Fld Z h0 a2 "com/example/cistern/cistern/PoolState$Counters" "connectionsOpened" "J" (.long c9)) (hc37 : ¬ ((f &&& (8 : Int32)) = (0 : Int32))) (X0 : Stand p l e ({ frames := 2, cells := 0, slots := 0, locals := 28 } : Room) s m args below meth c T0 locs 0 0) (hx : p.tables.exec = Jvm.exec) (hZ : Z.Warmed39 s.vm) (hby : c.code = method_3_code) (hml : c.maxLocals = 10) (hown : s.vm.findClass "com/example/cistern/cistern/CountersAddPinLaw" = some m.cls) (e0 : T0.heap = h0) (N0 : Fr n0 locs) :
    ∃ (T' : State) (L' : List Loc), Stand p l e ({ frames := 2, cells := 0, slots := 0, locals := 28 } : Room) s m args below meth c T' L' 0 0 ∧ Fr n0 L' ∧ Keep h0 T'.heap [a2] ∧ Exa Z T'.heap a2 "com/example/cistern/cistern/PoolState$Counters" ∧ Fld Z T'.heap a2 "com/example/cistern/cistern/PoolState$Counters" "requestCount" "J" (.long c0) ∧ Fld Z T'.heap a2 "com/example/cistern/cistern/PoolState$Counters" "requestNanos" "J" (.long c1) ∧ Fld Z T'.heap a2 "com/example/cistern/cistern/PoolState$Counters" "hadToWaitCount" "J" (.long c2) ∧ Fld Z T'.heap a2 "com/example/cistern/cistern/PoolState$Counters" "waitNanos" "J" (.long c3) ∧ Fld Z T'.heap a2 "com/example/cistern/cistern/PoolState$Counters" "badConnectionCount" "J" (.long c4) ∧ Fld Z T'.heap a2 "com/example/cistern/cistern/PoolState$Counters" "claimedOverdueCount" "J" (.long c5) ∧ Fld Z T'.heap a2 "com/example/cistern/cistern/PoolState$Counters" "overdueCheckoutNanos" "J" (.long c6) ∧ Fld Z T'.heap a2 "com/example/cistern/cistern/PoolState$Counters" "checkoutCount" "J" (.long c7) ∧ Fld Z T'.heap a2 "com/example/cistern/cistern/PoolState$Counters" "checkoutNanos" "J" (.long c8) ∧ Fld Z T'.heap a2 "com/example/cistern/cistern/PoolState$Counters" "connectionsOpened" "J" (.long (if (f &&& (8 : Int32)) = (0 : Int32) then c9 else (c9 + (1 : Int64)))) ∧ ∀ target, Steps p.tables e below (T'.setTop (mkF m 44 #[.val (.ref a2), .val (.int f), .val (.long q1), .second, .val (.long q2), .second, .val (.long q3), .second, .val (.long q4), .second] [])) target → Steps p.tables e below (T0.setTop (mkF m 33 #[.val (.ref a2), .val (.int f), .val (.long q1), .second, .val (.long q2), .second, .val (.long q3), .second, .val (.long q4), .second] [])) target := by
  obtain ⟨hw, O_ns, O_ens, O_scale, O_ratio⟩ := id hG
  have W : ∀ (i : Nat) {d : Jvm.Cond}, tables_1[i]? = some d → d.before a0 Z = true := fun i d h => hw d (List.mem_of_getElem? h)
  obtain ⟨cq287, kq287, q287a, q287b, q287c⟩ := isOf hZ e0 E_a2
  -- pc 41: com/example/cistern/cistern/PoolState$Counters.opened
  obtain ⟨_, _, ⟨T287, L287, k287, n287⟩, -, X287, ⟨Lc287, hQ287, l287, y287, z287⟩, st287⟩ := X0.virtualBack hx (y := y17) (z := y17) hown (mvT hZ (W 164 rfl)) (mvT hZ (W 165 rfl)) (notFace_of_selects (args := #[]) (mvT hZ (W 167 rfl))) (mvT hZ (W 167 rfl)) (mvT hZ (W 166 rfl)) (by decide) (backOf (W := 0) (rmopened l Z a0 ns hG [] a2 c0 c1 c2 c3 c4 c5 c6 c7 c8 c9 h0 n0 Z0 X00 E_a2 g_a2 F_requestCount_a2 F_requestNanos_a2 F_hadToWaitCount_a2 F_waitNanos_a2 F_badConnectionCount_a2 F_claimedOverdueCount_a2 F_overdueCheckoutNanos_a2 F_checkoutCount_a2 F_checkoutNanos_a2 F_connectionsOpened_a2) hZ (W 168 rfl) (W 2 rfl) (by decide) (by decide)) q287a q287c (g := (mkF m 41 #[.val (.ref a2), .val (.int f), .val (.long q1), .second, .val (.long q2), .second, .val (.long q3), .second, .val (.long q4), .second] [(.ref a2)])) rfl (by rw [hml]; rfl) (Steps.refl _) (argsL := []) (rest := []) (lenOf pd___V rfl) rfl (by show 2 * 0 + _ ≤ _; exact Nat.le_of_eq rfl) (hb hby dx_method_3_code_41) (fun _ _ => ⟨rfl, e0, (by decide : 0 + 0 ≤ _), (by decide : 0 + 0 ≤ _)⟩)
  dsimp only [Pt.U, Pt.locs, Pt.cells, Pt.slots] at X287 l287 y287 z287 st287 hQ287
  subst l287 y287 z287
  obtain ⟨rfl, N287q, K287, f287_0, f287_1, f287_2, f287_3, f287_4, f287_5, f287_6, f287_7, f287_8, f287_9, f287_10⟩ := hQ287
  have N287 := Fr.app N0 N287q
  have Z288 : n0 ≤ T287.heap.size := Nat.le_trans Z0 K287.1
  have K0_288 : Keep h0 T287.heap [a2] := (Keep.refl h0 [a2]).trans K287 (allS (Or.inl (List.mem_of_getElem? (i := 0) rfl)) all0)
  have O288 : Old Z n0 T287.heap := X00.keep K287 (allS g_a2 all0)
  refine ⟨T287, _, X287, N287, ?_⟩
  refine ⟨K0_288, f287_0, f287_1, f287_2, f287_3, f287_4, f287_5, f287_6, f287_7, f287_8, f287_9, (own_ineg hc37 f287_10), fun target kt => ?_⟩
  show Steps p.tables e below (T0.setTop (mkF m 33 #[.val (.ref a2), .val (.int f), .val (.long q1), .second, .val (.long q2), .second, .val (.long q3), .second, .val (.long q4), .second] [])) _
  refine XS.iloadN X0.here hx rfl (hb hby dx_method_3_code_33) rfl ?_
  show Steps p.tables e below (T0.setTop (mkF m 34 #[.val (.ref a2), .val (.int f), .val (.long q1), .second, .val (.long q2), .second, .val (.long q3), .second, .val (.long q4), .second] [(.int f)])) _
  refine XS.bipush X0.here hx rfl (hb hby dx_method_3_code_34) ?_
  show Steps p.tables e below (T0.setTop (mkF m 36 #[.val (.ref a2), .val (.int f), .val (.long q1), .second, .val (.long q2), .second, .val (.long q3), .second, .val (.long q4), .second] [(.int (8 : Int32)), (.int f)])) _
  refine XS.iand X0.here hx rfl (hb hby dx_method_3_code_36) rfl ?_
  show Steps p.tables e below (T0.setTop (mkF m 37 #[.val (.ref a2), .val (.int f), .val (.long q1), .second, .val (.long q2), .second, .val (.long q3), .second, .val (.long q4), .second] [(.int (f &&& (8 : Int32)))])) _
  refine XS.ifNo X0.here hx rfl (hb hby dx_method_3_code_37) rfl ((if0 _ _).trans (feq (hc37 : ¬ ((f &&& (8 : Int32)) = (0 : Int32)))).1) ?_
  show Steps p.tables e below (T0.setTop (mkF m 40 #[.val (.ref a2), .val (.int f), .val (.long q1), .second, .val (.long q2), .second, .val (.long q3), .second, .val (.long q4), .second] [])) _
  refine XS.aloadN X0.here hx rfl (hb hby dx_method_3_code_40) rfl rfl ?_
  show Steps p.tables e below (T0.setTop (mkF m 41 #[.val (.ref a2), .val (.int f), .val (.long q1), .second, .val (.long q2), .second, .val (.long q3), .second, .val (.long q4), .second] [(.ref a2)])) _
  refine st287.trans ?_
  exact kt
set_option maxRecDepth 65536 in
theorem sgfl3 {p : Program} {l : Launch} {e : Env} {s : State} {m : MethodId} {args : Array Value} {below : List Frame} {meth : Method} {c : Code} {T0 : State} {locs : List Loc} (Z : State) (a0 : Array Value) (ns : Addr) (hG : Glob Z a0 ns) (a2 : Addr) (f : Int32) (q1 : Int64) (q2 : Int64) (q3 : Int64) (q4 : Int64) (c0 : Int64) (c1 : Int64) (c2 : Int64) (c3 : Int64) (c4 : Int64) (c5 : Int64) (c6 : Int64) (c7 : Int64) (c8 : Int64) (c9 : Int64) (h0 : Heap) (n0 : Nat) (Z0 : n0 ≤ h0.size) (X00 : Old Z n0 h0) (E_a2 : Exa Z h0 a2 "com/example/cistern/cistern/PoolState$Counters") (g_a2 : n0 ≤ a2) (F_requestCount_a2 : Fld Z h0 a2 "com/example/cistern/cistern/PoolState$Counters" "requestCount" "J" (.long c0)) (F_requestNanos_a2 : Fld Z h0 a2 "com/example/cistern/cistern/PoolState$Counters" "requestNanos" "J" (.long c1)) (F_hadToWaitCount_a2 : Fld Z h0 a2 "com/example/cistern/cistern/PoolState$Counters" "hadToWaitCount" "J" (.long c2)) (F_waitNanos_a2 : Fld Z h0 a2 "com/example/cistern/cistern/PoolState$Counters" "waitNanos" "J" (.long c3)) (F_badConnectionCount_a2 : Fld Z h0 a2 "com/example/cistern/cistern/PoolState$Counters" "badConnectionCount" "J" (.long c4)) (F_claimedOverdueCount_a2 : Fld Z h0 a2 "com/example/cistern/cistern/PoolState$Counters" "claimedOverdueCount" "J" (.long c5)) (F_overdueCheckoutNanos_a2 : Fld Z h0 a2 "com/example/cistern/cistern/PoolState$Counters" "overdueCheckoutNanos" "J" (.long c6)) (F_checkoutCount_a2 : Fld Z h0 a2 "com/example/cistern/cistern/PoolState$Counters" "checkoutCount" "J" (.long c7)) (F_checkoutNanos_a2 : Fld Z h0 a2 "com/example/cistern/cistern/PoolState$Counters" "checkoutNanos" "J" (.long c8)) (F_connectionsOpened_a2 : Fld Z h0 a2 "com/example/cistern/cistern/PoolState$Counters" "connectionsOpened" "J" (.long c9)) (X0 : Stand p l e ({ frames := 2, cells := 0, slots := 0, locals := 28 } : Room) s m args below meth c T0 locs 0 0) (hx : p.tables.exec = Jvm.exec) (hZ : Z.Warmed39 s.vm) (hby : c.code = method_3_code) (hml : c.maxLocals = 10) (hown : s.vm.findClass "com/example/cistern/cistern/CountersAddPinLaw" = some m.cls) (e0 : T0.heap = h0) (N0 : Fr n0 locs) :
    ∃ (T' : State) (L' : List Loc), Stand p l e ({ frames := 2, cells := 0, slots := 0, locals := 28 } : Room) s m args below meth c T' L' 0 0 ∧ Fr n0 L' ∧ Keep h0 T'.heap [a2] ∧ Exa Z T'.heap a2 "com/example/cistern/cistern/PoolState$Counters" ∧ Fld Z T'.heap a2 "com/example/cistern/cistern/PoolState$Counters" "requestCount" "J" (.long c0) ∧ Fld Z T'.heap a2 "com/example/cistern/cistern/PoolState$Counters" "requestNanos" "J" (.long c1) ∧ Fld Z T'.heap a2 "com/example/cistern/cistern/PoolState$Counters" "hadToWaitCount" "J" (.long c2) ∧ Fld Z T'.heap a2 "com/example/cistern/cistern/PoolState$Counters" "waitNanos" "J" (.long c3) ∧ Fld Z T'.heap a2 "com/example/cistern/cistern/PoolState$Counters" "badConnectionCount" "J" (.long c4) ∧ Fld Z T'.heap a2 "com/example/cistern/cistern/PoolState$Counters" "claimedOverdueCount" "J" (.long c5) ∧ Fld Z T'.heap a2 "com/example/cistern/cistern/PoolState$Counters" "overdueCheckoutNanos" "J" (.long c6) ∧ Fld Z T'.heap a2 "com/example/cistern/cistern/PoolState$Counters" "checkoutCount" "J" (.long c7) ∧ Fld Z T'.heap a2 "com/example/cistern/cistern/PoolState$Counters" "checkoutNanos" "J" (.long c8) ∧ Fld Z T'.heap a2 "com/example/cistern/cistern/PoolState$Counters" "connectionsOpened" "J" (.long (if (f &&& (8 : Int32)) = (0 : Int32) then c9 else (c9 + (1 : Int64)))) ∧ ∀ target, Steps p.tables e below (T'.setTop (mkF m 44 #[.val (.ref a2), .val (.int f), .val (.long q1), .second, .val (.long q2), .second, .val (.long q3), .second, .val (.long q4), .second] [])) target → Steps p.tables e below (T0.setTop (mkF m 33 #[.val (.ref a2), .val (.int f), .val (.long q1), .second, .val (.long q2), .second, .val (.long q3), .second, .val (.long q4), .second] [])) target := by
  by_cases h : (f &&& (8 : Int32)) = (0 : Int32)
  · exact sgfl3_t Z a0 ns hG a2 f q1 q2 q3 q4 c0 c1 c2 c3 c4 c5 c6 c7 c8 c9 h0 n0 Z0 X00 E_a2 g_a2 F_requestCount_a2 F_requestNanos_a2 F_hadToWaitCount_a2 F_waitNanos_a2 F_badConnectionCount_a2 F_claimedOverdueCount_a2 F_overdueCheckoutNanos_a2 F_checkoutCount_a2 F_checkoutNanos_a2 F_connectionsOpened_a2 h X0 hx hZ hby hml hown e0 N0
  · exact sgfl3_f Z a0 ns hG a2 f q1 q2 q3 q4 c0 c1 c2 c3 c4 c5 c6 c7 c8 c9 h0 n0 Z0 X00 E_a2 g_a2 F_requestCount_a2 F_requestNanos_a2 F_hadToWaitCount_a2 F_waitNanos_a2 F_badConnectionCount_a2 F_claimedOverdueCount_a2 F_overdueCheckoutNanos_a2 F_checkoutCount_a2 F_checkoutNanos_a2 F_connectionsOpened_a2 h X0 hx hZ hby hml hown e0 N0
set_option maxRecDepth 65536 in
set_option maxHeartbeats 40000000 in
theorem sgfl4_t {p : Program} {l : Launch} {e : Env} {s : State} {m : MethodId} {args : Array Value} {below : List Frame} {meth : Method} {c : Code} {T0 : State} {locs : List Loc} (Z : State) (a0 : Array Value) (ns : Addr) (hG : Glob Z a0 ns) (a2 : Addr) (f : Int32) (q1 : Int64) (q2 : Int64) (q3 : Int64) (q4 : Int64) (c0 : Int64) (c1 : Int64) (c2 : Int64) (c3 : Int64) (c4 : Int64) (c5 : Int64) (c6 : Int64) (c7 : Int64) (c8 : Int64) (c9 : Int64) (h0 : Heap) (n0 : Nat) (Z0 : n0 ≤ h0.size) (X00 : Old Z n0 h0) (E_a2 : Exa Z h0 a2 "com/example/cistern/cistern/PoolState$Counters") (g_a2 : n0 ≤ a2) (F_requestCount_a2 : Fld Z h0 a2 "com/example/cistern/cistern/PoolState$Counters" "requestCount" "J" (.long c0)) (F_requestNanos_a2 : Fld Z h0 a2 "com/example/cistern/cistern/PoolState$Counters" "requestNanos" "J" (.long c1)) (F_hadToWaitCount_a2 : Fld Z h0 a2 "com/example/cistern/cistern/PoolState$Counters" "hadToWaitCount" "J" (.long c2)) (F_waitNanos_a2 : Fld Z h0 a2 "com/example/cistern/cistern/PoolState$Counters" "waitNanos" "J" (.long c3)) (F_badConnectionCount_a2 : Fld Z h0 a2 "com/example/cistern/cistern/PoolState$Counters" "badConnectionCount" "J" (.long c4)) (F_claimedOverdueCount_a2 : Fld Z h0 a2 "com/example/cistern/cistern/PoolState$Counters" "claimedOverdueCount" "J" (.long c5)) (F_overdueCheckoutNanos_a2 : Fld Z h0 a2 "com/example/cistern/cistern/PoolState$Counters" "overdueCheckoutNanos" "J" (.long c6)) (F_checkoutCount_a2 : Fld Z h0 a2 "com/example/cistern/cistern/PoolState$Counters" "checkoutCount" "J" (.long c7)) (F_checkoutNanos_a2 : Fld Z h0 a2 "com/example/cistern/cistern/PoolState$Counters" "checkoutNanos" "J" (.long c8)) (F_connectionsOpened_a2 : Fld Z h0 a2 "com/example/cistern/cistern/PoolState$Counters" "connectionsOpened" "J" (.long c9)) (hc48 : (f &&& (16 : Int32)) = (0 : Int32)) (X0 : Stand p l e ({ frames := 2, cells := 0, slots := 0, locals := 28 } : Room) s m args below meth c T0 locs 0 0) (hx : p.tables.exec = Jvm.exec) (hZ : Z.Warmed39 s.vm) (hby : c.code = method_3_code) (hml : c.maxLocals = 10) (hown : s.vm.findClass "com/example/cistern/cistern/CountersAddPinLaw" = some m.cls) (e0 : T0.heap = h0) (N0 : Fr n0 locs) :
    ∃ (T' : State) (L' : List Loc), Stand p l e ({ frames := 2, cells := 0, slots := 0, locals := 28 } : Room) s m args below meth c T' L' 0 0 ∧ Fr n0 L' ∧ Keep h0 T'.heap [a2] ∧ Exa Z T'.heap a2 "com/example/cistern/cistern/PoolState$Counters" ∧ Fld Z T'.heap a2 "com/example/cistern/cistern/PoolState$Counters" "requestCount" "J" (.long c0) ∧ Fld Z T'.heap a2 "com/example/cistern/cistern/PoolState$Counters" "requestNanos" "J" (.long c1) ∧ Fld Z T'.heap a2 "com/example/cistern/cistern/PoolState$Counters" "hadToWaitCount" "J" (.long c2) ∧ Fld Z T'.heap a2 "com/example/cistern/cistern/PoolState$Counters" "waitNanos" "J" (.long c3) ∧ Fld Z T'.heap a2 "com/example/cistern/cistern/PoolState$Counters" "badConnectionCount" "J" (.long c4) ∧ Fld Z T'.heap a2 "com/example/cistern/cistern/PoolState$Counters" "claimedOverdueCount" "J" (.long (if (f &&& (16 : Int32)) = (0 : Int32) then c5 else (c5 + (1 : Int64)))) ∧ Fld Z T'.heap a2 "com/example/cistern/cistern/PoolState$Counters" "overdueCheckoutNanos" "J" (.long (if (f &&& (16 : Int32)) = (0 : Int32) then c6 else (c6 + q3))) ∧ Fld Z T'.heap a2 "com/example/cistern/cistern/PoolState$Counters" "checkoutCount" "J" (.long (if (f &&& (16 : Int32)) = (0 : Int32) then c7 else (c7 + (1 : Int64)))) ∧ Fld Z T'.heap a2 "com/example/cistern/cistern/PoolState$Counters" "checkoutNanos" "J" (.long (if (f &&& (16 : Int32)) = (0 : Int32) then c8 else (c8 + q3))) ∧ Fld Z T'.heap a2 "com/example/cistern/cistern/PoolState$Counters" "connectionsOpened" "J" (.long c9) ∧ ∀ target, Steps p.tables e below (T'.setTop (mkF m 57 #[.val (.ref a2), .val (.int f), .val (.long q1), .second, .val (.long q2), .second, .val (.long q3), .second, .val (.long q4), .second] [])) target → Steps p.tables e below (T0.setTop (mkF m 44 #[.val (.ref a2), .val (.int f), .val (.long q1), .second, .val (.long q2), .second, .val (.long q3), .second, .val (.long q4), .second] [])) target := by
  obtain ⟨hw, O_ns, O_ens, O_scale, O_ratio⟩ := id hG
  have W : ∀ (i : Nat) {d : Jvm.Cond}, tables_1[i]? = some d → d.before a0 Z = true := fun i d h => hw d (List.mem_of_getElem? h)
  refine ⟨T0, _, X0, N0, ?_⟩
  rw [e0]
  refine ⟨(Keep.refl h0 [a2]), E_a2, F_requestCount_a2, F_requestNanos_a2, F_hadToWaitCount_a2, F_waitNanos_a2, F_badConnectionCount_a2, (own_ipos hc48 F_claimedOverdueCount_a2), (own_ipos hc48 F_overdueCheckoutNanos_a2), (own_ipos hc48 F_checkoutCount_a2), (own_ipos hc48 F_checkoutNanos_a2), F_connectionsOpened_a2, fun target kt => ?_⟩
  show Steps p.tables e below (T0.setTop (mkF m 44 #[.val (.ref a2), .val (.int f), .val (.long q1), .second, .val (.long q2), .second, .val (.long q3), .second, .val (.long q4), .second] [])) _
  refine XS.iloadN X0.here hx rfl (hb hby dx_method_3_code_44) rfl ?_
  show Steps p.tables e below (T0.setTop (mkF m 45 #[.val (.ref a2), .val (.int f), .val (.long q1), .second, .val (.long q2), .second, .val (.long q3), .second, .val (.long q4), .second] [(.int f)])) _
  refine XS.bipush X0.here hx rfl (hb hby dx_method_3_code_45) ?_
  show Steps p.tables e below (T0.setTop (mkF m 47 #[.val (.ref a2), .val (.int f), .val (.long q1), .second, .val (.long q2), .second, .val (.long q3), .second, .val (.long q4), .second] [(.int (16 : Int32)), (.int f)])) _
  refine XS.iand X0.here hx rfl (hb hby dx_method_3_code_47) rfl ?_
  show Steps p.tables e below (T0.setTop (mkF m 48 #[.val (.ref a2), .val (.int f), .val (.long q1), .second, .val (.long q2), .second, .val (.long q3), .second, .val (.long q4), .second] [(.int (f &&& (16 : Int32)))])) _
  refine XS.ifYes X0.here hx rfl (pc0 := 48) (pc' := 57) rfl (hb hby dx_method_3_code_48) rfl ((if0 _ _).trans (teq (hc48 : (f &&& (16 : Int32)) = (0 : Int32))).1) (by decide) (by decide) ?_
  exact kt
set_option maxRecDepth 65536 in
set_option maxHeartbeats 40000000 in
theorem sgfl4_f {p : Program} {l : Launch} {e : Env} {s : State} {m : MethodId} {args : Array Value} {below : List Frame} {meth : Method} {c : Code} {T0 : State} {locs : List Loc} (Z : State) (a0 : Array Value) (ns : Addr) (hG : Glob Z a0 ns) (a2 : Addr) (f : Int32) (q1 : Int64) (q2 : Int64) (q3 : Int64) (q4 : Int64) (c0 : Int64) (c1 : Int64) (c2 : Int64) (c3 : Int64) (c4 : Int64) (c5 : Int64) (c6 : Int64) (c7 : Int64) (c8 : Int64) (c9 : Int64) (h0 : Heap) (n0 : Nat) (Z0 : n0 ≤ h0.size) (X00 : Old Z n0 h0) (E_a2 : Exa Z h0 a2 "com/example/cistern/cistern/PoolState$Counters") (g_a2 : n0 ≤ a2) (F_requestCount_a2 : Fld Z h0 a2 "com/example/cistern/cistern/PoolState$Counters" "requestCount" "J" (.long c0)) (F_requestNanos_a2 : Fld Z h0 a2 "com/example/cistern/cistern/PoolState$Counters" "requestNanos" "J" (.long c1)) (F_hadToWaitCount_a2 : Fld Z h0 a2 "com/example/cistern/cistern/PoolState$Counters" "hadToWaitCount" "J" (.long c2)) (F_waitNanos_a2 : Fld Z h0 a2 "com/example/cistern/cistern/PoolState$Counters" "waitNanos" "J" (.long c3)) (F_badConnectionCount_a2 : Fld Z h0 a2 "com/example/cistern/cistern/PoolState$Counters" "badConnectionCount" "J" (.long c4)) (F_claimedOverdueCount_a2 : Fld Z h0 a2 "com/example/cistern/cistern/PoolState$Counters" "claimedOverdueCount" "J" (.long c5)) (F_overdueCheckoutNanos_a2 : Fld Z h0 a2 "com/example/cistern/cistern/PoolState$Counters" "overdueCheckoutNanos" "J" (.long c6)) (F_checkoutCount_a2 : Fld Z h0 a2 "com/example/cistern/cistern/PoolState$Counters" "checkoutCount" "J" (.long c7)) (F_checkoutNanos_a2 : Fld Z h0 a2 "com/example/cistern/cistern/PoolState$Counters" "checkoutNanos" "J" (.long c8)) (F_connectionsOpened_a2 : Fld Z h0 a2 "com/example/cistern/cistern/PoolState$Counters" "connectionsOpened" "J" (.long c9)) (hc48 : ¬ ((f &&& (16 : Int32)) = (0 : Int32))) (X0 : Stand p l e ({ frames := 2, cells := 0, slots := 0, locals := 28 } : Room) s m args below meth c T0 locs 0 0) (hx : p.tables.exec = Jvm.exec) (hZ : Z.Warmed39 s.vm) (hby : c.code = method_3_code) (hml : c.maxLocals = 10) (hown : s.vm.findClass "com/example/cistern/cistern/CountersAddPinLaw" = some m.cls) (e0 : T0.heap = h0) (N0 : Fr n0 locs) :
    ∃ (T' : State) (L' : List Loc), Stand p l e ({ frames := 2, cells := 0, slots := 0, locals := 28 } : Room) s m args below meth c T' L' 0 0 ∧ Fr n0 L' ∧ Keep h0 T'.heap [a2] ∧ Exa Z T'.heap a2 "com/example/cistern/cistern/PoolState$Counters" ∧ Fld Z T'.heap a2 "com/example/cistern/cistern/PoolState$Counters" "requestCount" "J" (.long c0) ∧ Fld Z T'.heap a2 "com/example/cistern/cistern/PoolState$Counters" "requestNanos" "J" (.long c1) ∧ Fld Z T'.heap a2 "com/example/cistern/cistern/PoolState$Counters" "hadToWaitCount" "J" (.long c2) ∧ Fld Z T'.heap a2 "com/example/cistern/cistern/PoolState$Counters" "waitNanos" "J" (.long c3) ∧ Fld Z T'.heap a2 "com/example/cistern/cistern/PoolState$Counters" "badConnectionCount" "J" (.long c4) ∧ Fld Z T'.heap a2 "com/example/cistern/cistern/PoolState$Counters" "claimedOverdueCount" "J" (.long (if (f &&& (16 : Int32)) = (0 : Int32) then c5 else (c5 + (1 : Int64)))) ∧ Fld Z T'.heap a2 "com/example/cistern/cistern/PoolState$Counters" "overdueCheckoutNanos" "J" (.long (if (f &&& (16 : Int32)) = (0 : Int32) then c6 else (c6 + q3))) ∧ Fld Z T'.heap a2 "com/example/cistern/cistern/PoolState$Counters" "checkoutCount" "J" (.long (if (f &&& (16 : Int32)) = (0 : Int32) then c7 else (c7 + (1 : Int64)))) ∧ Fld Z T'.heap a2 "com/example/cistern/cistern/PoolState$Counters" "checkoutNanos" "J" (.long (if (f &&& (16 : Int32)) = (0 : Int32) then c8 else (c8 + q3))) ∧ Fld Z T'.heap a2 "com/example/cistern/cistern/PoolState$Counters" "connectionsOpened" "J" (.long c9) ∧ ∀ target, Steps p.tables e below (T'.setTop (mkF m 57 #[.val (.ref a2), .val (.int f), .val (.long q1), .second, .val (.long q2), .second, .val (.long q3), .second, .val (.long q4), .second] [])) target → Steps p.tables e below (T0.setTop (mkF m 44 #[.val (.ref a2), .val (.int f), .val (.long q1), .second, .val (.long q2), .second, .val (.long q3), .second, .val (.long q4), .second] [])) target := by
  obtain ⟨hw, O_ns, O_ens, O_scale, O_ratio⟩ := id hG
  have W : ∀ (i : Nat) {d : Jvm.Cond}, tables_1[i]? = some d → d.before a0 Z = true := fun i d h => hw d (List.mem_of_getElem? h)
  obtain ⟨cq289, kq289, q289a, q289b, q289c⟩ := isOf hZ e0 E_a2
  -- pc 54: com/example/cistern/cistern/PoolState$Counters.claimedOverdue
  obtain ⟨_, _, ⟨T289, L289, k289, n289⟩, -, X289, ⟨Lc289, hQ289, l289, y289, z289⟩, st289⟩ := X0.virtualBack hx (y := y19) (z := y19) hown (mvT hZ (W 169 rfl)) (mvT hZ (W 170 rfl)) (notFace_of_selects (args := #[]) (mvT hZ (W 172 rfl))) (mvT hZ (W 172 rfl)) (mvT hZ (W 171 rfl)) (by decide) (backOf (W := 0) (rmclo l Z a0 ns hG [] a2 q3 c0 c1 c2 c3 c4 c5 c6 c7 c8 c9 h0 n0 Z0 X00 E_a2 g_a2 F_requestCount_a2 F_requestNanos_a2 F_hadToWaitCount_a2 F_waitNanos_a2 F_badConnectionCount_a2 F_claimedOverdueCount_a2 F_overdueCheckoutNanos_a2 F_checkoutCount_a2 F_checkoutNanos_a2 F_connectionsOpened_a2) hZ (W 173 rfl) (W 2 rfl) (by decide) (by decide)) q289a q289c (g := (mkF m 54 #[.val (.ref a2), .val (.int f), .val (.long q1), .second, .val (.long q2), .second, .val (.long q3), .second, .val (.long q4), .second] [(.long q3), (.ref a2)])) rfl (by rw [hml]; rfl) (Steps.refl _) (argsL := [(.long q3)]) (rest := []) (lenOf pd__J_V rfl) rfl (by show 2 * 0 + _ ≤ _; exact Nat.le_of_eq rfl) (hb hby dx_method_3_code_54) (fun _ _ => ⟨rfl, e0, (by decide : 0 + 0 ≤ _), (by decide : 0 + 0 ≤ _)⟩)
  dsimp only [Pt.U, Pt.locs, Pt.cells, Pt.slots] at X289 l289 y289 z289 st289 hQ289
  subst l289 y289 z289
  obtain ⟨rfl, N289q, K289, f289_0, f289_1, f289_2, f289_3, f289_4, f289_5, f289_6, f289_7, f289_8, f289_9, f289_10⟩ := hQ289
  have N289 := Fr.app N0 N289q
  have Z290 : n0 ≤ T289.heap.size := Nat.le_trans Z0 K289.1
  have K0_290 : Keep h0 T289.heap [a2] := (Keep.refl h0 [a2]).trans K289 (allS (Or.inl (List.mem_of_getElem? (i := 0) rfl)) all0)
  have O290 : Old Z n0 T289.heap := X00.keep K289 (allS g_a2 all0)
  refine ⟨T289, _, X289, N289, ?_⟩
  refine ⟨K0_290, f289_0, f289_1, f289_2, f289_3, f289_4, f289_5, (own_ineg hc48 f289_6), (own_ineg hc48 f289_7), (own_ineg hc48 f289_8), (own_ineg hc48 f289_9), f289_10, fun target kt => ?_⟩
  show Steps p.tables e below (T0.setTop (mkF m 44 #[.val (.ref a2), .val (.int f), .val (.long q1), .second, .val (.long q2), .second, .val (.long q3), .second, .val (.long q4), .second] [])) _
  refine XS.iloadN X0.here hx rfl (hb hby dx_method_3_code_44) rfl ?_
  show Steps p.tables e below (T0.setTop (mkF m 45 #[.val (.ref a2), .val (.int f), .val (.long q1), .second, .val (.long q2), .second, .val (.long q3), .second, .val (.long q4), .second] [(.int f)])) _
  refine XS.bipush X0.here hx rfl (hb hby dx_method_3_code_45) ?_
  show Steps p.tables e below (T0.setTop (mkF m 47 #[.val (.ref a2), .val (.int f), .val (.long q1), .second, .val (.long q2), .second, .val (.long q3), .second, .val (.long q4), .second] [(.int (16 : Int32)), (.int f)])) _
  refine XS.iand X0.here hx rfl (hb hby dx_method_3_code_47) rfl ?_
  show Steps p.tables e below (T0.setTop (mkF m 48 #[.val (.ref a2), .val (.int f), .val (.long q1), .second, .val (.long q2), .second, .val (.long q3), .second, .val (.long q4), .second] [(.int (f &&& (16 : Int32)))])) _
  refine XS.ifNo X0.here hx rfl (hb hby dx_method_3_code_48) rfl ((if0 _ _).trans (feq (hc48 : ¬ ((f &&& (16 : Int32)) = (0 : Int32)))).1) ?_
  show Steps p.tables e below (T0.setTop (mkF m 51 #[.val (.ref a2), .val (.int f), .val (.long q1), .second, .val (.long q2), .second, .val (.long q3), .second, .val (.long q4), .second] [])) _
  refine XS.aloadN X0.here hx rfl (hb hby dx_method_3_code_51) rfl rfl ?_
  show Steps p.tables e below (T0.setTop (mkF m 52 #[.val (.ref a2), .val (.int f), .val (.long q1), .second, .val (.long q2), .second, .val (.long q3), .second, .val (.long q4), .second] [(.ref a2)])) _
  refine XS.lload X0.here hx rfl (hb hby dx_method_3_code_52) rfl ?_
  show Steps p.tables e below (T0.setTop (mkF m 54 #[.val (.ref a2), .val (.int f), .val (.long q1), .second, .val (.long q2), .second, .val (.long q3), .second, .val (.long q4), .second] [(.long q3), (.ref a2)])) _
  refine st289.trans ?_
  exact kt
set_option maxRecDepth 65536 in
theorem sgfl4 {p : Program} {l : Launch} {e : Env} {s : State} {m : MethodId} {args : Array Value} {below : List Frame} {meth : Method} {c : Code} {T0 : State} {locs : List Loc} (Z : State) (a0 : Array Value) (ns : Addr) (hG : Glob Z a0 ns) (a2 : Addr) (f : Int32) (q1 : Int64) (q2 : Int64) (q3 : Int64) (q4 : Int64) (c0 : Int64) (c1 : Int64) (c2 : Int64) (c3 : Int64) (c4 : Int64) (c5 : Int64) (c6 : Int64) (c7 : Int64) (c8 : Int64) (c9 : Int64) (h0 : Heap) (n0 : Nat) (Z0 : n0 ≤ h0.size) (X00 : Old Z n0 h0) (E_a2 : Exa Z h0 a2 "com/example/cistern/cistern/PoolState$Counters") (g_a2 : n0 ≤ a2) (F_requestCount_a2 : Fld Z h0 a2 "com/example/cistern/cistern/PoolState$Counters" "requestCount" "J" (.long c0)) (F_requestNanos_a2 : Fld Z h0 a2 "com/example/cistern/cistern/PoolState$Counters" "requestNanos" "J" (.long c1)) (F_hadToWaitCount_a2 : Fld Z h0 a2 "com/example/cistern/cistern/PoolState$Counters" "hadToWaitCount" "J" (.long c2)) (F_waitNanos_a2 : Fld Z h0 a2 "com/example/cistern/cistern/PoolState$Counters" "waitNanos" "J" (.long c3)) (F_badConnectionCount_a2 : Fld Z h0 a2 "com/example/cistern/cistern/PoolState$Counters" "badConnectionCount" "J" (.long c4)) (F_claimedOverdueCount_a2 : Fld Z h0 a2 "com/example/cistern/cistern/PoolState$Counters" "claimedOverdueCount" "J" (.long c5)) (F_overdueCheckoutNanos_a2 : Fld Z h0 a2 "com/example/cistern/cistern/PoolState$Counters" "overdueCheckoutNanos" "J" (.long c6)) (F_checkoutCount_a2 : Fld Z h0 a2 "com/example/cistern/cistern/PoolState$Counters" "checkoutCount" "J" (.long c7)) (F_checkoutNanos_a2 : Fld Z h0 a2 "com/example/cistern/cistern/PoolState$Counters" "checkoutNanos" "J" (.long c8)) (F_connectionsOpened_a2 : Fld Z h0 a2 "com/example/cistern/cistern/PoolState$Counters" "connectionsOpened" "J" (.long c9)) (X0 : Stand p l e ({ frames := 2, cells := 0, slots := 0, locals := 28 } : Room) s m args below meth c T0 locs 0 0) (hx : p.tables.exec = Jvm.exec) (hZ : Z.Warmed39 s.vm) (hby : c.code = method_3_code) (hml : c.maxLocals = 10) (hown : s.vm.findClass "com/example/cistern/cistern/CountersAddPinLaw" = some m.cls) (e0 : T0.heap = h0) (N0 : Fr n0 locs) :
    ∃ (T' : State) (L' : List Loc), Stand p l e ({ frames := 2, cells := 0, slots := 0, locals := 28 } : Room) s m args below meth c T' L' 0 0 ∧ Fr n0 L' ∧ Keep h0 T'.heap [a2] ∧ Exa Z T'.heap a2 "com/example/cistern/cistern/PoolState$Counters" ∧ Fld Z T'.heap a2 "com/example/cistern/cistern/PoolState$Counters" "requestCount" "J" (.long c0) ∧ Fld Z T'.heap a2 "com/example/cistern/cistern/PoolState$Counters" "requestNanos" "J" (.long c1) ∧ Fld Z T'.heap a2 "com/example/cistern/cistern/PoolState$Counters" "hadToWaitCount" "J" (.long c2) ∧ Fld Z T'.heap a2 "com/example/cistern/cistern/PoolState$Counters" "waitNanos" "J" (.long c3) ∧ Fld Z T'.heap a2 "com/example/cistern/cistern/PoolState$Counters" "badConnectionCount" "J" (.long c4) ∧ Fld Z T'.heap a2 "com/example/cistern/cistern/PoolState$Counters" "claimedOverdueCount" "J" (.long (if (f &&& (16 : Int32)) = (0 : Int32) then c5 else (c5 + (1 : Int64)))) ∧ Fld Z T'.heap a2 "com/example/cistern/cistern/PoolState$Counters" "overdueCheckoutNanos" "J" (.long (if (f &&& (16 : Int32)) = (0 : Int32) then c6 else (c6 + q3))) ∧ Fld Z T'.heap a2 "com/example/cistern/cistern/PoolState$Counters" "checkoutCount" "J" (.long (if (f &&& (16 : Int32)) = (0 : Int32) then c7 else (c7 + (1 : Int64)))) ∧ Fld Z T'.heap a2 "com/example/cistern/cistern/PoolState$Counters" "checkoutNanos" "J" (.long (if (f &&& (16 : Int32)) = (0 : Int32) then c8 else (c8 + q3))) ∧ Fld Z T'.heap a2 "com/example/cistern/cistern/PoolState$Counters" "connectionsOpened" "J" (.long c9) ∧ ∀ target, Steps p.tables e below (T'.setTop (mkF m 57 #[.val (.ref a2), .val (.int f), .val (.long q1), .second, .val (.long q2), .second, .val (.long q3), .second, .val (.long q4), .second] [])) target → Steps p.tables e below (T0.setTop (mkF m 44 #[.val (.ref a2), .val (.int f), .val (.long q1), .second, .val (.long q2), .second, .val (.long q3), .second, .val (.long q4), .second] [])) target := by
  by_cases h : (f &&& (16 : Int32)) = (0 : Int32)
  · exact sgfl4_t Z a0 ns hG a2 f q1 q2 q3 q4 c0 c1 c2 c3 c4 c5 c6 c7 c8 c9 h0 n0 Z0 X00 E_a2 g_a2 F_requestCount_a2 F_requestNanos_a2 F_hadToWaitCount_a2 F_waitNanos_a2 F_badConnectionCount_a2 F_claimedOverdueCount_a2 F_overdueCheckoutNanos_a2 F_checkoutCount_a2 F_checkoutNanos_a2 F_connectionsOpened_a2 h X0 hx hZ hby hml hown e0 N0
  · exact sgfl4_f Z a0 ns hG a2 f q1 q2 q3 q4 c0 c1 c2 c3 c4 c5 c6 c7 c8 c9 h0 n0 Z0 X00 E_a2 g_a2 F_requestCount_a2 F_requestNanos_a2 F_hadToWaitCount_a2 F_waitNanos_a2 F_badConnectionCount_a2 F_claimedOverdueCount_a2 F_overdueCheckoutNanos_a2 F_checkoutCount_a2 F_checkoutNanos_a2 F_connectionsOpened_a2 h X0 hx hZ hby hml hown e0 N0
set_option maxRecDepth 65536 in
set_option maxHeartbeats 40000000 in
theorem sgfl5_t {p : Program} {l : Launch} {e : Env} {s : State} {m : MethodId} {args : Array Value} {below : List Frame} {meth : Method} {c : Code} {T0 : State} {locs : List Loc} (Z : State) (a0 : Array Value) (ns : Addr) (hG : Glob Z a0 ns) (a2 : Addr) (f : Int32) (q1 : Int64) (q2 : Int64) (q3 : Int64) (q4 : Int64) (c0 : Int64) (c1 : Int64) (c2 : Int64) (c3 : Int64) (c4 : Int64) (c5 : Int64) (c6 : Int64) (c7 : Int64) (c8 : Int64) (c9 : Int64) (h0 : Heap) (n0 : Nat) (Z0 : n0 ≤ h0.size) (X00 : Old Z n0 h0) (E_a2 : Exa Z h0 a2 "com/example/cistern/cistern/PoolState$Counters") (g_a2 : n0 ≤ a2) (F_requestCount_a2 : Fld Z h0 a2 "com/example/cistern/cistern/PoolState$Counters" "requestCount" "J" (.long c0)) (F_requestNanos_a2 : Fld Z h0 a2 "com/example/cistern/cistern/PoolState$Counters" "requestNanos" "J" (.long c1)) (F_hadToWaitCount_a2 : Fld Z h0 a2 "com/example/cistern/cistern/PoolState$Counters" "hadToWaitCount" "J" (.long c2)) (F_waitNanos_a2 : Fld Z h0 a2 "com/example/cistern/cistern/PoolState$Counters" "waitNanos" "J" (.long c3)) (F_badConnectionCount_a2 : Fld Z h0 a2 "com/example/cistern/cistern/PoolState$Counters" "badConnectionCount" "J" (.long c4)) (F_claimedOverdueCount_a2 : Fld Z h0 a2 "com/example/cistern/cistern/PoolState$Counters" "claimedOverdueCount" "J" (.long c5)) (F_overdueCheckoutNanos_a2 : Fld Z h0 a2 "com/example/cistern/cistern/PoolState$Counters" "overdueCheckoutNanos" "J" (.long c6)) (F_checkoutCount_a2 : Fld Z h0 a2 "com/example/cistern/cistern/PoolState$Counters" "checkoutCount" "J" (.long c7)) (F_checkoutNanos_a2 : Fld Z h0 a2 "com/example/cistern/cistern/PoolState$Counters" "checkoutNanos" "J" (.long c8)) (F_connectionsOpened_a2 : Fld Z h0 a2 "com/example/cistern/cistern/PoolState$Counters" "connectionsOpened" "J" (.long c9)) (hc61 : (f &&& (32 : Int32)) = (0 : Int32)) (X0 : Stand p l e ({ frames := 2, cells := 0, slots := 0, locals := 28 } : Room) s m args below meth c T0 locs 0 0) (hx : p.tables.exec = Jvm.exec) (hZ : Z.Warmed39 s.vm) (hby : c.code = method_3_code) (hml : c.maxLocals = 10) (hown : s.vm.findClass "com/example/cistern/cistern/CountersAddPinLaw" = some m.cls) (e0 : T0.heap = h0) (N0 : Fr n0 locs) :
    ∃ (T' : State) (L' : List Loc), Stand p l e ({ frames := 2, cells := 0, slots := 0, locals := 28 } : Room) s m args below meth c T' L' 0 0 ∧ Fr n0 L' ∧ Keep h0 T'.heap [a2] ∧ Exa Z T'.heap a2 "com/example/cistern/cistern/PoolState$Counters" ∧ Fld Z T'.heap a2 "com/example/cistern/cistern/PoolState$Counters" "requestCount" "J" (.long c0) ∧ Fld Z T'.heap a2 "com/example/cistern/cistern/PoolState$Counters" "requestNanos" "J" (.long c1) ∧ Fld Z T'.heap a2 "com/example/cistern/cistern/PoolState$Counters" "hadToWaitCount" "J" (.long c2) ∧ Fld Z T'.heap a2 "com/example/cistern/cistern/PoolState$Counters" "waitNanos" "J" (.long c3) ∧ Fld Z T'.heap a2 "com/example/cistern/cistern/PoolState$Counters" "badConnectionCount" "J" (.long c4) ∧ Fld Z T'.heap a2 "com/example/cistern/cistern/PoolState$Counters" "claimedOverdueCount" "J" (.long c5) ∧ Fld Z T'.heap a2 "com/example/cistern/cistern/PoolState$Counters" "overdueCheckoutNanos" "J" (.long c6) ∧ Fld Z T'.heap a2 "com/example/cistern/cistern/PoolState$Counters" "checkoutCount" "J" (.long (if (f &&& (32 : Int32)) = (0 : Int32) then c7 else (c7 + (1 : Int64)))) ∧ Fld Z T'.heap a2 "com/example/cistern/cistern/PoolState$Counters" "checkoutNanos" "J" (.long (if (f &&& (32 : Int32)) = (0 : Int32) then c8 else (c8 + q4))) ∧ Fld Z T'.heap a2 "com/example/cistern/cistern/PoolState$Counters" "connectionsOpened" "J" (.long c9) ∧ ∀ target, Steps p.tables e below (T'.setTop (mkF m 70 #[.val (.ref a2), .val (.int f), .val (.long q1), .second, .val (.long q2), .second, .val (.long q3), .second, .val (.long q4), .second] [])) target → Steps p.tables e below (T0.setTop (mkF m 57 #[.val (.ref a2), .val (.int f), .val (.long q1), .second, .val (.long q2), .second, .val (.long q3), .second, .val (.long q4), .second] [])) target := by
  obtain ⟨hw, O_ns, O_ens, O_scale, O_ratio⟩ := id hG
  have W : ∀ (i : Nat) {d : Jvm.Cond}, tables_1[i]? = some d → d.before a0 Z = true := fun i d h => hw d (List.mem_of_getElem? h)
  refine ⟨T0, _, X0, N0, ?_⟩
  rw [e0]
  refine ⟨(Keep.refl h0 [a2]), E_a2, F_requestCount_a2, F_requestNanos_a2, F_hadToWaitCount_a2, F_waitNanos_a2, F_badConnectionCount_a2, F_claimedOverdueCount_a2, F_overdueCheckoutNanos_a2, (own_ipos hc61 F_checkoutCount_a2), (own_ipos hc61 F_checkoutNanos_a2), F_connectionsOpened_a2, fun target kt => ?_⟩
  show Steps p.tables e below (T0.setTop (mkF m 57 #[.val (.ref a2), .val (.int f), .val (.long q1), .second, .val (.long q2), .second, .val (.long q3), .second, .val (.long q4), .second] [])) _
  refine XS.iloadN X0.here hx rfl (hb hby dx_method_3_code_57) rfl ?_
  show Steps p.tables e below (T0.setTop (mkF m 58 #[.val (.ref a2), .val (.int f), .val (.long q1), .second, .val (.long q2), .second, .val (.long q3), .second, .val (.long q4), .second] [(.int f)])) _
  refine XS.bipush X0.here hx rfl (hb hby dx_method_3_code_58) ?_
  show Steps p.tables e below (T0.setTop (mkF m 60 #[.val (.ref a2), .val (.int f), .val (.long q1), .second, .val (.long q2), .second, .val (.long q3), .second, .val (.long q4), .second] [(.int (32 : Int32)), (.int f)])) _
  refine XS.iand X0.here hx rfl (hb hby dx_method_3_code_60) rfl ?_
  show Steps p.tables e below (T0.setTop (mkF m 61 #[.val (.ref a2), .val (.int f), .val (.long q1), .second, .val (.long q2), .second, .val (.long q3), .second, .val (.long q4), .second] [(.int (f &&& (32 : Int32)))])) _
  refine XS.ifYes X0.here hx rfl (pc0 := 61) (pc' := 70) rfl (hb hby dx_method_3_code_61) rfl ((if0 _ _).trans (teq (hc61 : (f &&& (32 : Int32)) = (0 : Int32))).1) (by decide) (by decide) ?_
  exact kt
set_option maxRecDepth 65536 in
set_option maxHeartbeats 40000000 in
theorem sgfl5_f {p : Program} {l : Launch} {e : Env} {s : State} {m : MethodId} {args : Array Value} {below : List Frame} {meth : Method} {c : Code} {T0 : State} {locs : List Loc} (Z : State) (a0 : Array Value) (ns : Addr) (hG : Glob Z a0 ns) (a2 : Addr) (f : Int32) (q1 : Int64) (q2 : Int64) (q3 : Int64) (q4 : Int64) (c0 : Int64) (c1 : Int64) (c2 : Int64) (c3 : Int64) (c4 : Int64) (c5 : Int64) (c6 : Int64) (c7 : Int64) (c8 : Int64) (c9 : Int64) (h0 : Heap) (n0 : Nat) (Z0 : n0 ≤ h0.size) (X00 : Old Z n0 h0) (E_a2 : Exa Z h0 a2 "com/example/cistern/cistern/PoolState$Counters") (g_a2 : n0 ≤ a2) (F_requestCount_a2 : Fld Z h0 a2 "com/example/cistern/cistern/PoolState$Counters" "requestCount" "J" (.long c0)) (F_requestNanos_a2 : Fld Z h0 a2 "com/example/cistern/cistern/PoolState$Counters" "requestNanos" "J" (.long c1)) (F_hadToWaitCount_a2 : Fld Z h0 a2 "com/example/cistern/cistern/PoolState$Counters" "hadToWaitCount" "J" (.long c2)) (F_waitNanos_a2 : Fld Z h0 a2 "com/example/cistern/cistern/PoolState$Counters" "waitNanos" "J" (.long c3)) (F_badConnectionCount_a2 : Fld Z h0 a2 "com/example/cistern/cistern/PoolState$Counters" "badConnectionCount" "J" (.long c4)) (F_claimedOverdueCount_a2 : Fld Z h0 a2 "com/example/cistern/cistern/PoolState$Counters" "claimedOverdueCount" "J" (.long c5)) (F_overdueCheckoutNanos_a2 : Fld Z h0 a2 "com/example/cistern/cistern/PoolState$Counters" "overdueCheckoutNanos" "J" (.long c6)) (F_checkoutCount_a2 : Fld Z h0 a2 "com/example/cistern/cistern/PoolState$Counters" "checkoutCount" "J" (.long c7)) (F_checkoutNanos_a2 : Fld Z h0 a2 "com/example/cistern/cistern/PoolState$Counters" "checkoutNanos" "J" (.long c8)) (F_connectionsOpened_a2 : Fld Z h0 a2 "com/example/cistern/cistern/PoolState$Counters" "connectionsOpened" "J" (.long c9)) (hc61 : ¬ ((f &&& (32 : Int32)) = (0 : Int32))) (X0 : Stand p l e ({ frames := 2, cells := 0, slots := 0, locals := 28 } : Room) s m args below meth c T0 locs 0 0) (hx : p.tables.exec = Jvm.exec) (hZ : Z.Warmed39 s.vm) (hby : c.code = method_3_code) (hml : c.maxLocals = 10) (hown : s.vm.findClass "com/example/cistern/cistern/CountersAddPinLaw" = some m.cls) (e0 : T0.heap = h0) (N0 : Fr n0 locs) :
    ∃ (T' : State) (L' : List Loc), Stand p l e ({ frames := 2, cells := 0, slots := 0, locals := 28 } : Room) s m args below meth c T' L' 0 0 ∧ Fr n0 L' ∧ Keep h0 T'.heap [a2] ∧ Exa Z T'.heap a2 "com/example/cistern/cistern/PoolState$Counters" ∧ Fld Z T'.heap a2 "com/example/cistern/cistern/PoolState$Counters" "requestCount" "J" (.long c0) ∧ Fld Z T'.heap a2 "com/example/cistern/cistern/PoolState$Counters" "requestNanos" "J" (.long c1) ∧ Fld Z T'.heap a2 "com/example/cistern/cistern/PoolState$Counters" "hadToWaitCount" "J" (.long c2) ∧ Fld Z T'.heap a2 "com/example/cistern/cistern/PoolState$Counters" "waitNanos" "J" (.long c3) ∧ Fld Z T'.heap a2 "com/example/cistern/cistern/PoolState$Counters" "badConnectionCount" "J" (.long c4) ∧ Fld Z T'.heap a2 "com/example/cistern/cistern/PoolState$Counters" "claimedOverdueCount" "J" (.long c5) ∧ Fld Z T'.heap a2 "com/example/cistern/cistern/PoolState$Counters" "overdueCheckoutNanos" "J" (.long c6) ∧ Fld Z T'.heap a2 "com/example/cistern/cistern/PoolState$Counters" "checkoutCount" "J" (.long (if (f &&& (32 : Int32)) = (0 : Int32) then c7 else (c7 + (1 : Int64)))) ∧ Fld Z T'.heap a2 "com/example/cistern/cistern/PoolState$Counters" "checkoutNanos" "J" (.long (if (f &&& (32 : Int32)) = (0 : Int32) then c8 else (c8 + q4))) ∧ Fld Z T'.heap a2 "com/example/cistern/cistern/PoolState$Counters" "connectionsOpened" "J" (.long c9) ∧ ∀ target, Steps p.tables e below (T'.setTop (mkF m 70 #[.val (.ref a2), .val (.int f), .val (.long q1), .second, .val (.long q2), .second, .val (.long q3), .second, .val (.long q4), .second] [])) target → Steps p.tables e below (T0.setTop (mkF m 57 #[.val (.ref a2), .val (.int f), .val (.long q1), .second, .val (.long q2), .second, .val (.long q3), .second, .val (.long q4), .second] [])) target := by
  obtain ⟨hw, O_ns, O_ens, O_scale, O_ratio⟩ := id hG
  have W : ∀ (i : Nat) {d : Jvm.Cond}, tables_1[i]? = some d → d.before a0 Z = true := fun i d h => hw d (List.mem_of_getElem? h)
  obtain ⟨cq291, kq291, q291a, q291b, q291c⟩ := isOf hZ e0 E_a2
  -- pc 67: com/example/cistern/cistern/PoolState$Counters.checkedIn
  obtain ⟨_, _, ⟨T291, L291, k291, n291⟩, -, X291, ⟨Lc291, hQ291, l291, y291, z291⟩, st291⟩ := X0.virtualBack hx (y := y18) (z := y18) hown (mvT hZ (W 179 rfl)) (mvT hZ (W 175 rfl)) (notFace_of_selects (args := #[]) (mvT hZ (W 177 rfl))) (mvT hZ (W 177 rfl)) (mvT hZ (W 176 rfl)) (by decide) (backOf (W := 0) (rmcheckedIn l Z a0 ns hG [] a2 q4 c0 c1 c2 c3 c4 c5 c6 c7 c8 c9 h0 n0 Z0 X00 E_a2 g_a2 F_requestCount_a2 F_requestNanos_a2 F_hadToWaitCount_a2 F_waitNanos_a2 F_badConnectionCount_a2 F_claimedOverdueCount_a2 F_overdueCheckoutNanos_a2 F_checkoutCount_a2 F_checkoutNanos_a2 F_connectionsOpened_a2) hZ (W 178 rfl) (W 2 rfl) (by decide) (by decide)) q291a q291c (g := (mkF m 67 #[.val (.ref a2), .val (.int f), .val (.long q1), .second, .val (.long q2), .second, .val (.long q3), .second, .val (.long q4), .second] [(.long q4), (.ref a2)])) rfl (by rw [hml]; rfl) (Steps.refl _) (argsL := [(.long q4)]) (rest := []) (lenOf pd__J_V rfl) rfl (by show 2 * 0 + _ ≤ _; exact Nat.le_of_eq rfl) (hb hby dx_method_3_code_67) (fun _ _ => ⟨rfl, e0, (by decide : 0 + 0 ≤ _), (by decide : 0 + 0 ≤ _)⟩)
  dsimp only [Pt.U, Pt.locs, Pt.cells, Pt.slots] at X291 l291 y291 z291 st291 hQ291
  subst l291 y291 z291
  obtain ⟨rfl, N291q, K291, f291_0, f291_1, f291_2, f291_3, f291_4, f291_5, f291_6, f291_7, f291_8, f291_9, f291_10⟩ := hQ291
  have N291 := Fr.app N0 N291q
  have Z292 : n0 ≤ T291.heap.size := Nat.le_trans Z0 K291.1
  have K0_292 : Keep h0 T291.heap [a2] := (Keep.refl h0 [a2]).trans K291 (allS (Or.inl (List.mem_of_getElem? (i := 0) rfl)) all0)
  have O292 : Old Z n0 T291.heap := X00.keep K291 (allS g_a2 all0)
  refine ⟨T291, _, X291, N291, ?_⟩
  refine ⟨K0_292, f291_0, f291_1, f291_2, f291_3, f291_4, f291_5, f291_6, f291_7, (own_ineg hc61 f291_8), (own_ineg hc61 f291_9), f291_10, fun target kt => ?_⟩
  show Steps p.tables e below (T0.setTop (mkF m 57 #[.val (.ref a2), .val (.int f), .val (.long q1), .second, .val (.long q2), .second, .val (.long q3), .second, .val (.long q4), .second] [])) _
  refine XS.iloadN X0.here hx rfl (hb hby dx_method_3_code_57) rfl ?_
  show Steps p.tables e below (T0.setTop (mkF m 58 #[.val (.ref a2), .val (.int f), .val (.long q1), .second, .val (.long q2), .second, .val (.long q3), .second, .val (.long q4), .second] [(.int f)])) _
  refine XS.bipush X0.here hx rfl (hb hby dx_method_3_code_58) ?_
  show Steps p.tables e below (T0.setTop (mkF m 60 #[.val (.ref a2), .val (.int f), .val (.long q1), .second, .val (.long q2), .second, .val (.long q3), .second, .val (.long q4), .second] [(.int (32 : Int32)), (.int f)])) _
  refine XS.iand X0.here hx rfl (hb hby dx_method_3_code_60) rfl ?_
  show Steps p.tables e below (T0.setTop (mkF m 61 #[.val (.ref a2), .val (.int f), .val (.long q1), .second, .val (.long q2), .second, .val (.long q3), .second, .val (.long q4), .second] [(.int (f &&& (32 : Int32)))])) _
  refine XS.ifNo X0.here hx rfl (hb hby dx_method_3_code_61) rfl ((if0 _ _).trans (feq (hc61 : ¬ ((f &&& (32 : Int32)) = (0 : Int32)))).1) ?_
  show Steps p.tables e below (T0.setTop (mkF m 64 #[.val (.ref a2), .val (.int f), .val (.long q1), .second, .val (.long q2), .second, .val (.long q3), .second, .val (.long q4), .second] [])) _
  refine XS.aloadN X0.here hx rfl (hb hby dx_method_3_code_64) rfl rfl ?_
  show Steps p.tables e below (T0.setTop (mkF m 65 #[.val (.ref a2), .val (.int f), .val (.long q1), .second, .val (.long q2), .second, .val (.long q3), .second, .val (.long q4), .second] [(.ref a2)])) _
  refine XS.lload X0.here hx rfl (hb hby dx_method_3_code_65) rfl ?_
  show Steps p.tables e below (T0.setTop (mkF m 67 #[.val (.ref a2), .val (.int f), .val (.long q1), .second, .val (.long q2), .second, .val (.long q3), .second, .val (.long q4), .second] [(.long q4), (.ref a2)])) _
  refine st291.trans ?_
  exact kt
set_option maxRecDepth 65536 in
theorem sgfl5 {p : Program} {l : Launch} {e : Env} {s : State} {m : MethodId} {args : Array Value} {below : List Frame} {meth : Method} {c : Code} {T0 : State} {locs : List Loc} (Z : State) (a0 : Array Value) (ns : Addr) (hG : Glob Z a0 ns) (a2 : Addr) (f : Int32) (q1 : Int64) (q2 : Int64) (q3 : Int64) (q4 : Int64) (c0 : Int64) (c1 : Int64) (c2 : Int64) (c3 : Int64) (c4 : Int64) (c5 : Int64) (c6 : Int64) (c7 : Int64) (c8 : Int64) (c9 : Int64) (h0 : Heap) (n0 : Nat) (Z0 : n0 ≤ h0.size) (X00 : Old Z n0 h0) (E_a2 : Exa Z h0 a2 "com/example/cistern/cistern/PoolState$Counters") (g_a2 : n0 ≤ a2) (F_requestCount_a2 : Fld Z h0 a2 "com/example/cistern/cistern/PoolState$Counters" "requestCount" "J" (.long c0)) (F_requestNanos_a2 : Fld Z h0 a2 "com/example/cistern/cistern/PoolState$Counters" "requestNanos" "J" (.long c1)) (F_hadToWaitCount_a2 : Fld Z h0 a2 "com/example/cistern/cistern/PoolState$Counters" "hadToWaitCount" "J" (.long c2)) (F_waitNanos_a2 : Fld Z h0 a2 "com/example/cistern/cistern/PoolState$Counters" "waitNanos" "J" (.long c3)) (F_badConnectionCount_a2 : Fld Z h0 a2 "com/example/cistern/cistern/PoolState$Counters" "badConnectionCount" "J" (.long c4)) (F_claimedOverdueCount_a2 : Fld Z h0 a2 "com/example/cistern/cistern/PoolState$Counters" "claimedOverdueCount" "J" (.long c5)) (F_overdueCheckoutNanos_a2 : Fld Z h0 a2 "com/example/cistern/cistern/PoolState$Counters" "overdueCheckoutNanos" "J" (.long c6)) (F_checkoutCount_a2 : Fld Z h0 a2 "com/example/cistern/cistern/PoolState$Counters" "checkoutCount" "J" (.long c7)) (F_checkoutNanos_a2 : Fld Z h0 a2 "com/example/cistern/cistern/PoolState$Counters" "checkoutNanos" "J" (.long c8)) (F_connectionsOpened_a2 : Fld Z h0 a2 "com/example/cistern/cistern/PoolState$Counters" "connectionsOpened" "J" (.long c9)) (X0 : Stand p l e ({ frames := 2, cells := 0, slots := 0, locals := 28 } : Room) s m args below meth c T0 locs 0 0) (hx : p.tables.exec = Jvm.exec) (hZ : Z.Warmed39 s.vm) (hby : c.code = method_3_code) (hml : c.maxLocals = 10) (hown : s.vm.findClass "com/example/cistern/cistern/CountersAddPinLaw" = some m.cls) (e0 : T0.heap = h0) (N0 : Fr n0 locs) :
    ∃ (T' : State) (L' : List Loc), Stand p l e ({ frames := 2, cells := 0, slots := 0, locals := 28 } : Room) s m args below meth c T' L' 0 0 ∧ Fr n0 L' ∧ Keep h0 T'.heap [a2] ∧ Exa Z T'.heap a2 "com/example/cistern/cistern/PoolState$Counters" ∧ Fld Z T'.heap a2 "com/example/cistern/cistern/PoolState$Counters" "requestCount" "J" (.long c0) ∧ Fld Z T'.heap a2 "com/example/cistern/cistern/PoolState$Counters" "requestNanos" "J" (.long c1) ∧ Fld Z T'.heap a2 "com/example/cistern/cistern/PoolState$Counters" "hadToWaitCount" "J" (.long c2) ∧ Fld Z T'.heap a2 "com/example/cistern/cistern/PoolState$Counters" "waitNanos" "J" (.long c3) ∧ Fld Z T'.heap a2 "com/example/cistern/cistern/PoolState$Counters" "badConnectionCount" "J" (.long c4) ∧ Fld Z T'.heap a2 "com/example/cistern/cistern/PoolState$Counters" "claimedOverdueCount" "J" (.long c5) ∧ Fld Z T'.heap a2 "com/example/cistern/cistern/PoolState$Counters" "overdueCheckoutNanos" "J" (.long c6) ∧ Fld Z T'.heap a2 "com/example/cistern/cistern/PoolState$Counters" "checkoutCount" "J" (.long (if (f &&& (32 : Int32)) = (0 : Int32) then c7 else (c7 + (1 : Int64)))) ∧ Fld Z T'.heap a2 "com/example/cistern/cistern/PoolState$Counters" "checkoutNanos" "J" (.long (if (f &&& (32 : Int32)) = (0 : Int32) then c8 else (c8 + q4))) ∧ Fld Z T'.heap a2 "com/example/cistern/cistern/PoolState$Counters" "connectionsOpened" "J" (.long c9) ∧ ∀ target, Steps p.tables e below (T'.setTop (mkF m 70 #[.val (.ref a2), .val (.int f), .val (.long q1), .second, .val (.long q2), .second, .val (.long q3), .second, .val (.long q4), .second] [])) target → Steps p.tables e below (T0.setTop (mkF m 57 #[.val (.ref a2), .val (.int f), .val (.long q1), .second, .val (.long q2), .second, .val (.long q3), .second, .val (.long q4), .second] [])) target := by
  by_cases h : (f &&& (32 : Int32)) = (0 : Int32)
  · exact sgfl5_t Z a0 ns hG a2 f q1 q2 q3 q4 c0 c1 c2 c3 c4 c5 c6 c7 c8 c9 h0 n0 Z0 X00 E_a2 g_a2 F_requestCount_a2 F_requestNanos_a2 F_hadToWaitCount_a2 F_waitNanos_a2 F_badConnectionCount_a2 F_claimedOverdueCount_a2 F_overdueCheckoutNanos_a2 F_checkoutCount_a2 F_checkoutNanos_a2 F_connectionsOpened_a2 h X0 hx hZ hby hml hown e0 N0
  · exact sgfl5_f Z a0 ns hG a2 f q1 q2 q3 q4 c0 c1 c2 c3 c4 c5 c6 c7 c8 c9 h0 n0 Z0 X00 E_a2 g_a2 F_requestCount_a2 F_requestNanos_a2 F_hadToWaitCount_a2 F_waitNanos_a2 F_badConnectionCount_a2 F_claimedOverdueCount_a2 F_overdueCheckoutNanos_a2 F_checkoutCount_a2 F_checkoutNanos_a2 F_connectionsOpened_a2 h X0 hx hZ hby hml hown e0 N0
theorem dx_method_3_code_70 : decode method_3_code 70 = .ok (.return_, 1) := by decide +kernel
def Qfill (Z : State) (ns : Addr) (a2 : Addr) (f : Int32) (q1 : Int64) (q2 : Int64) (q3 : Int64) (q4 : Int64) (c0 : Int64) (c1 : Int64) (c2 : Int64) (c3 : Int64) (c4 : Int64) (c5 : Int64) (c6 : Int64) (c7 : Int64) (c8 : Int64) (c9 : Int64) (h0 : Heap) (n0 : Nat) (v : Option Value) (h : Heap) (L : List Loc) : Prop := v = none ∧ Fr n0 L ∧ Keep h0 h [a2] ∧ Exa Z h a2 "com/example/cistern/cistern/PoolState$Counters" ∧ Fld Z h a2 "com/example/cistern/cistern/PoolState$Counters" "requestCount" "J" (.long (if (f &&& (1 : Int32)) = (0 : Int32) then c0 else (c0 + (1 : Int64)))) ∧ Fld Z h a2 "com/example/cistern/cistern/PoolState$Counters" "requestNanos" "J" (.long (if (f &&& (1 : Int32)) = (0 : Int32) then c1 else (c1 + q1))) ∧ Fld Z h a2 "com/example/cistern/cistern/PoolState$Counters" "hadToWaitCount" "J" (.long (if (f &&& (2 : Int32)) = (0 : Int32) then c2 else (c2 + (1 : Int64)))) ∧ Fld Z h a2 "com/example/cistern/cistern/PoolState$Counters" "waitNanos" "J" (.long (if (f &&& (2 : Int32)) = (0 : Int32) then c3 else (c3 + q2))) ∧ Fld Z h a2 "com/example/cistern/cistern/PoolState$Counters" "badConnectionCount" "J" (.long (if (f &&& (4 : Int32)) = (0 : Int32) then c4 else (c4 + (1 : Int64)))) ∧ Fld Z h a2 "com/example/cistern/cistern/PoolState$Counters" "claimedOverdueCount" "J" (.long (if (f &&& (16 : Int32)) = (0 : Int32) then c5 else (c5 + (1 : Int64)))) ∧ Fld Z h a2 "com/example/cistern/cistern/PoolState$Counters" "overdueCheckoutNanos" "J" (.long (if (f &&& (16 : Int32)) = (0 : Int32) then c6 else (c6 + q3))) ∧ Fld Z h a2 "com/example/cistern/cistern/PoolState$Counters" "checkoutCount" "J" (.long (if (f &&& (32 : Int32)) = (0 : Int32) then (if (f &&& (16 : Int32)) = (0 : Int32) then c7 else (c7 + (1 : Int64))) else ((if (f &&& (16 : Int32)) = (0 : Int32) then c7 else (c7 + (1 : Int64))) + (1 : Int64)))) ∧ Fld Z h a2 "com/example/cistern/cistern/PoolState$Counters" "checkoutNanos" "J" (.long (if (f &&& (32 : Int32)) = (0 : Int32) then (if (f &&& (16 : Int32)) = (0 : Int32) then c8 else (c8 + q3)) else ((if (f &&& (16 : Int32)) = (0 : Int32) then c8 else (c8 + q3)) + q4))) ∧ Fld Z h a2 "com/example/cistern/cistern/PoolState$Counters" "connectionsOpened" "J" (.long (if (f &&& (8 : Int32)) = (0 : Int32) then c9 else (c9 + (1 : Int64))))
theorem ef_method_3_code_RIJJJJ (m : MethodId) (x0 : Addr) (x1 : Int32) (x2 : Int64) (x3 : Int64) (x4 : Int64) (x5 : Int64) : entryFrame m #[(.ref x0), (.int x1), (.long x2), (.long x3), (.long x4), (.long x5)] 10 = mkF m 0 #[.val (.ref x0), .val (.int x1), .val (.long x2), .second, .val (.long x3), .second, .val (.long x4), .second, .val (.long x5), .second] [] := by first | (simp [entryFrame, mkF, argsToLocals, Value.category]; done) | rfl
abbrev y24 : MethodName := ⟨"com/example/cistern/cistern/CountersAddPinLaw", "fill", "(Lcom/example/cistern/cistern/PoolState$Counters;IJJJJ)V"⟩
set_option maxRecDepth 65536 in
set_option maxHeartbeats 40000000 in
theorem rmfill (l : Launch) (Z : State) (a0 : Array Value) (ns : Addr) (hG : Glob Z a0 ns) (ws : List Jvm.Cond) (a2 : Addr) (f : Int32) (q1 : Int64) (q2 : Int64) (q3 : Int64) (q4 : Int64) (c0 : Int64) (c1 : Int64) (c2 : Int64) (c3 : Int64) (c4 : Int64) (c5 : Int64) (c6 : Int64) (c7 : Int64) (c8 : Int64) (c9 : Int64) (h0 : Heap) (n0 : Nat) (Z0 : n0 ≤ h0.size) (X00 : Old Z n0 h0) (E_a2 : Exa Z h0 a2 "com/example/cistern/cistern/PoolState$Counters") (g_a2 : n0 ≤ a2) (F_requestCount_a2 : Fld Z h0 a2 "com/example/cistern/cistern/PoolState$Counters" "requestCount" "J" (.long c0)) (F_requestNanos_a2 : Fld Z h0 a2 "com/example/cistern/cistern/PoolState$Counters" "requestNanos" "J" (.long c1)) (F_hadToWaitCount_a2 : Fld Z h0 a2 "com/example/cistern/cistern/PoolState$Counters" "hadToWaitCount" "J" (.long c2)) (F_waitNanos_a2 : Fld Z h0 a2 "com/example/cistern/cistern/PoolState$Counters" "waitNanos" "J" (.long c3)) (F_badConnectionCount_a2 : Fld Z h0 a2 "com/example/cistern/cistern/PoolState$Counters" "badConnectionCount" "J" (.long c4)) (F_claimedOverdueCount_a2 : Fld Z h0 a2 "com/example/cistern/cistern/PoolState$Counters" "claimedOverdueCount" "J" (.long c5)) (F_overdueCheckoutNanos_a2 : Fld Z h0 a2 "com/example/cistern/cistern/PoolState$Counters" "overdueCheckoutNanos" "J" (.long c6)) (F_checkoutCount_a2 : Fld Z h0 a2 "com/example/cistern/cistern/PoolState$Counters" "checkoutCount" "J" (.long c7)) (F_checkoutNanos_a2 : Fld Z h0 a2 "com/example/cistern/cistern/PoolState$Counters" "checkoutNanos" "J" (.long c8)) (F_connectionsOpened_a2 : Fld Z h0 a2 "com/example/cistern/cistern/PoolState$Counters" "connectionsOpened" "J" (.long c9)) :
    MetFree l y24 (head1 (Jvm.Cond.code y24 method_3_code 10 none :: ws) ({ frames := 2, cells := 0, slots := 0, locals := 28 } : Room)) (fun a U => a = #[(.ref a2), (.int f), (.long q1), (.long q2), (.long q3), (.long q4)] ∧ Z.Warmed39 U.vm ∧ U.heap = h0) (fun _ _ _ _ _ => True) (fun _ U o U' => ∃ v L, o = .returned v ∧ Qfill Z ns a2 f q1 q2 q3 q4 c0 c1 c2 c3 c4 c5 c6 c7 c8 c9 h0 n0 v U'.heap L ∧ FrameEnd U o U' L ({ frames := 2, cells := 0, slots := 0, locals := 28 } : Room).cells ({ frames := 2, cells := 0, slots := 0, locals := 28 } : Room).slots) := by
  obtain ⟨hw, O_ns, O_ens, O_scale, O_ratio⟩ := id hG
  have W : ∀ (i : Nat) {d : Jvm.Cond}, tables_1[i]? = some d → d.before a0 Z = true := fun i d h => hw d (List.mem_of_getElem? h)
  refine MetFree.of_bodySF (plainFor_of_name pn_com_example_cistern_cistern_CountersAddPinLaw) hisR ?_
  intro p e s m args below meth c s₁ Bd hml0 hP hK
  obtain ⟨rfl, hZ, hh⟩ := hP
  have hx := Bd.exec
  have hby := Bd.bytes
  have hml : c.maxLocals = 10 := hml0
  have hown : s.vm.findClass "com/example/cistern/cistern/CountersAddPinLaw" = some m.cls := findClass_of_methodNamed Bd.named
  have hnm := (name_of_methodNamed Bd.named Bd.method).1
  have X0 : Stand p l e ({ frames := 2, cells := 0, slots := 0, locals := 28 } : Room) s m #[(.ref a2), (.int f), (.long q1), (.long q2), (.long q3), (.long q4)] below meth c s₁ [] 0 0 := Stand.of_body Bd
  have e0 : s₁.heap = h0 := by rw [← hh, Bd.state]; rfl
  have N0 := Fr.nil n0
  have pre0 : ∀ t, Steps p.tables e below (s₁.setTop (mkF m 0 #[.val (.ref a2), .val (.int f), .val (.long q1), .second, .val (.long q2), .second, .val (.long q3), .second, .val (.long q4), .second] [])) t → Steps p.tables e below (s₁.setTop (entryFrame m #[(.ref a2), (.int f), (.long q1), (.long q2), (.long q3), (.long q4)] 10)) t := fun t kk_ => castTop (ef_method_3_code_RIJJJJ m a2 f q1 q2 q3 q4) kk_
  obtain ⟨T293, L293, X293, N293, K293, f293_0, f293_1, f293_2, f293_3, f293_4, f293_5, f293_6, f293_7, f293_8, f293_9, f293_10, st293⟩ := sgfl0 Z a0 ns hG a2 f q1 q2 q3 q4 c0 c1 c2 c3 c4 c5 c6 c7 c8 c9 h0 n0 Z0 X00 E_a2 g_a2 F_requestCount_a2 F_requestNanos_a2 F_hadToWaitCount_a2 F_waitNanos_a2 F_badConnectionCount_a2 F_claimedOverdueCount_a2 F_overdueCheckoutNanos_a2 F_checkoutCount_a2 F_checkoutNanos_a2 F_connectionsOpened_a2 X0 hx hZ hby hml hown e0 N0
  have Z294 : n0 ≤ T293.heap.size := Nat.le_trans Z0 K293.1
  have K0_294 : Keep h0 T293.heap [a2] := (Keep.refl h0 [a2]).trans K293 (allS (Or.inl (List.mem_of_getElem? (i := 0) rfl)) all0)
  have O294 : Old Z n0 T293.heap := X00.keep K293 (allS g_a2 all0)
  obtain ⟨T295, L295, X295, N295, K295, f295_0, f295_1, f295_2, f295_3, f295_4, f295_5, f295_6, f295_7, f295_8, f295_9, f295_10, st295⟩ := sgfl1 Z a0 ns hG a2 f q1 q2 q3 q4 (if (f &&& (1 : Int32)) = (0 : Int32) then c0 else (c0 + (1 : Int64))) (if (f &&& (1 : Int32)) = (0 : Int32) then c1 else (c1 + q1)) c2 c3 c4 c5 c6 c7 c8 c9 T293.heap n0 Z294 O294 f293_0 g_a2 f293_1 f293_2 f293_3 f293_4 f293_5 f293_6 f293_7 f293_8 f293_9 f293_10 X293 hx hZ hby hml hown rfl N293
  have Z296 : n0 ≤ T295.heap.size := Nat.le_trans Z294 K295.1
  have K0_296 : Keep h0 T295.heap [a2] := K0_294.trans K295 (allS (Or.inl (List.mem_of_getElem? (i := 0) rfl)) all0)
  have O296 : Old Z n0 T295.heap := O294.keep K295 (allS g_a2 all0)
  obtain ⟨T297, L297, X297, N297, K297, f297_0, f297_1, f297_2, f297_3, f297_4, f297_5, f297_6, f297_7, f297_8, f297_9, f297_10, st297⟩ := sgfl2 Z a0 ns hG a2 f q1 q2 q3 q4 (if (f &&& (1 : Int32)) = (0 : Int32) then c0 else (c0 + (1 : Int64))) (if (f &&& (1 : Int32)) = (0 : Int32) then c1 else (c1 + q1)) (if (f &&& (2 : Int32)) = (0 : Int32) then c2 else (c2 + (1 : Int64))) (if (f &&& (2 : Int32)) = (0 : Int32) then c3 else (c3 + q2)) c4 c5 c6 c7 c8 c9 T295.heap n0 Z296 O296 f295_0 g_a2 f295_1 f295_2 f295_3 f295_4 f295_5 f295_6 f295_7 f295_8 f295_9 f295_10 X295 hx hZ hby hml hown rfl N295
  have Z298 : n0 ≤ T297.heap.size := Nat.le_trans Z296 K297.1
  have K0_298 : Keep h0 T297.heap [a2] := K0_296.trans K297 (allS (Or.inl (List.mem_of_getElem? (i := 0) rfl)) all0)
  have O298 : Old Z n0 T297.heap := O296.keep K297 (allS g_a2 all0)
  obtain ⟨T299, L299, X299, N299, K299, f299_0, f299_1, f299_2, f299_3, f299_4, f299_5, f299_6, f299_7, f299_8, f299_9, f299_10, st299⟩ := sgfl3 Z a0 ns hG a2 f q1 q2 q3 q4 (if (f &&& (1 : Int32)) = (0 : Int32) then c0 else (c0 + (1 : Int64))) (if (f &&& (1 : Int32)) = (0 : Int32) then c1 else (c1 + q1)) (if (f &&& (2 : Int32)) = (0 : Int32) then c2 else (c2 + (1 : Int64))) (if (f &&& (2 : Int32)) = (0 : Int32) then c3 else (c3 + q2)) (if (f &&& (4 : Int32)) = (0 : Int32) then c4 else (c4 + (1 : Int64))) c5 c6 c7 c8 c9 T297.heap n0 Z298 O298 f297_0 g_a2 f297_1 f297_2 f297_3 f297_4 f297_5 f297_6 f297_7 f297_8 f297_9 f297_10 X297 hx hZ hby hml hown rfl N297
  have Z300 : n0 ≤ T299.heap.size := Nat.le_trans Z298 K299.1
  have K0_300 : Keep h0 T299.heap [a2] := K0_298.trans K299 (allS (Or.inl (List.mem_of_getElem? (i := 0) rfl)) all0)
  have O300 : Old Z n0 T299.heap := O298.keep K299 (allS g_a2 all0)
  obtain ⟨T301, L301, X301, N301, K301, f301_0, f301_1, f301_2, f301_3, f301_4, f301_5, f301_6, f301_7, f301_8, f301_9, f301_10, st301⟩ := sgfl4 Z a0 ns hG a2 f q1 q2 q3 q4 (if (f &&& (1 : Int32)) = (0 : Int32) then c0 else (c0 + (1 : Int64))) (if (f &&& (1 : Int32)) = (0 : Int32) then c1 else (c1 + q1)) (if (f &&& (2 : Int32)) = (0 : Int32) then c2 else (c2 + (1 : Int64))) (if (f &&& (2 : Int32)) = (0 : Int32) then c3 else (c3 + q2)) (if (f &&& (4 : Int32)) = (0 : Int32) then c4 else (c4 + (1 : Int64))) c5 c6 c7 c8 (if (f &&& (8 : Int32)) = (0 : Int32) then c9 else (c9 + (1 : Int64))) T299.heap n0 Z300 O300 f299_0 g_a2 f299_1 f299_2 f299_3 f299_4 f299_5 f299_6 f299_7 f299_8 f299_9 f299_10 X299 hx hZ hby hml hown rfl N299
  have Z302 : n0 ≤ T301.heap.size := Nat.le_trans Z300 K301.1
  have K0_302 : Keep h0 T301.heap [a2] := K0_300.trans K301 (allS (Or.inl (List.mem_of_getElem? (i := 0) rfl)) all0)
  have O302 : Old Z n0 T301.heap := O300.keep K301 (allS g_a2 all0)
  obtain ⟨T303, L303, X303, N303, K303, f303_0, f303_1, f303_2, f303_3, f303_4, f303_5, f303_6, f303_7, f303_8, f303_9, f303_10, st303⟩ := sgfl5 Z a0 ns hG a2 f q1 q2 q3 q4 (if (f &&& (1 : Int32)) = (0 : Int32) then c0 else (c0 + (1 : Int64))) (if (f &&& (1 : Int32)) = (0 : Int32) then c1 else (c1 + q1)) (if (f &&& (2 : Int32)) = (0 : Int32) then c2 else (c2 + (1 : Int64))) (if (f &&& (2 : Int32)) = (0 : Int32) then c3 else (c3 + q2)) (if (f &&& (4 : Int32)) = (0 : Int32) then c4 else (c4 + (1 : Int64))) (if (f &&& (16 : Int32)) = (0 : Int32) then c5 else (c5 + (1 : Int64))) (if (f &&& (16 : Int32)) = (0 : Int32) then c6 else (c6 + q3)) (if (f &&& (16 : Int32)) = (0 : Int32) then c7 else (c7 + (1 : Int64))) (if (f &&& (16 : Int32)) = (0 : Int32) then c8 else (c8 + q3)) (if (f &&& (8 : Int32)) = (0 : Int32) then c9 else (c9 + (1 : Int64))) T301.heap n0 Z302 O302 f301_0 g_a2 f301_1 f301_2 f301_3 f301_4 f301_5 f301_6 f301_7 f301_8 f301_9 f301_10 X301 hx hZ hby hml hown rfl N301
  have Z304 : n0 ≤ T303.heap.size := Nat.le_trans Z302 K303.1
  have K0_304 : Keep h0 T303.heap [a2] := K0_302.trans K303 (allS (Or.inl (List.mem_of_getElem? (i := 0) rfl)) all0)
  have O304 : Old Z n0 T303.heap := O302.keep K303 (allS g_a2 all0)
  obtain ⟨fs, hr, hrun, hended, hW, hsame⟩ := X303.leave (v := none) (fun _ => rfl)
  refine ⟨_, _, pre0 _ ?_, hrun, hended, _, _, rfl, ?_, ⟨_, rfl⟩, hW, hsame.mono (Nat.le_of_ble_eq_true rfl) (Nat.le_of_ble_eq_true rfl)⟩
  · show Steps p.tables e below (s₁.setTop (mkF m 0 #[.val (.ref a2), .val (.int f), .val (.long q1), .second, .val (.long q2), .second, .val (.long q3), .second, .val (.long q4), .second] [])) _
    refine st293 _ ?_
    show Steps p.tables e below (T293.setTop (mkF m 11 #[.val (.ref a2), .val (.int f), .val (.long q1), .second, .val (.long q2), .second, .val (.long q3), .second, .val (.long q4), .second] [])) _
    refine st295 _ ?_
    show Steps p.tables e below (T295.setTop (mkF m 23 #[.val (.ref a2), .val (.int f), .val (.long q1), .second, .val (.long q2), .second, .val (.long q3), .second, .val (.long q4), .second] [])) _
    refine st297 _ ?_
    show Steps p.tables e below (T297.setTop (mkF m 33 #[.val (.ref a2), .val (.int f), .val (.long q1), .second, .val (.long q2), .second, .val (.long q3), .second, .val (.long q4), .second] [])) _
    refine st299 _ ?_
    show Steps p.tables e below (T299.setTop (mkF m 44 #[.val (.ref a2), .val (.int f), .val (.long q1), .second, .val (.long q2), .second, .val (.long q3), .second, .val (.long q4), .second] [])) _
    refine st301 _ ?_
    show Steps p.tables e below (T301.setTop (mkF m 57 #[.val (.ref a2), .val (.int f), .val (.long q1), .second, .val (.long q2), .second, .val (.long q3), .second, .val (.long q4), .second] [])) _
    refine st303 _ ?_
    show Steps p.tables e below (T303.setTop (mkF m 70 #[.val (.ref a2), .val (.int f), .val (.long q1), .second, .val (.long q2), .second, .val (.long q3), .second, .val (.long q4), .second] [])) _
    exact X303.returnOut hx Bd.returns (hb hby dx_method_3_code_70) hr
  · show Qfill Z ns a2 f q1 q2 q3 q4 c0 c1 c2 c3 c4 c5 c6 c7 c8 c9 h0 n0 _ T303.heap _
    exact ⟨rfl, N303, K0_304, f303_0, f303_1, f303_2, f303_3, f303_4, f303_5, f303_6, f303_7, f303_8, f303_9, f303_10⟩
theorem own_63 (P : Int32 → Prop) (h : ∀ k : Fin 64, P (Int32.ofNat k.val)) (x : Int32) : P (x &&& 63) := by
  have h' : (x &&& 63).toBitVec.toNat < 64 := by
    simp only [Int32.toBitVec_and, BitVec.toNat_and]
    exact Nat.lt_succ_of_le Nat.and_le_right
  have e : (x &&& 63) = Int32.ofNat (x &&& 63).toBitVec.toNat := by
    apply Int32.toBitVec_inj.mp
    show _ = BitVec.ofNat 32 _
    rw [BitVec.ofNat_toNat]; simp
  rw [e]
  exact h ⟨_, h'⟩
abbrev own_bt (f i : Int32) : Int32 := ((f.toUInt32 >>> (i &&& 31).toUInt32).toInt32) &&& (1 : Int32)
theorem own_iff0 (x : Int32) : ((x &&& 63) &&& (1 : Int32) = (0 : Int32)) ↔ (own_bt (x &&& 63) (0 : Int32) = (0 : Int32)) := own_63 (fun f => (f &&& (1 : Int32) = (0 : Int32)) ↔ (own_bt f (0 : Int32) = (0 : Int32))) (by decide +kernel) x
theorem own_cnt0 (x : Int32) : (if ((x &&& 63) &&& (1 : Int32)) = (0 : Int32) then (0 : Int64) else ((0 : Int64) + (1 : Int64))) = (own_bt (x &&& 63) (0 : Int32)).toInt64 := own_63 (fun f => (if (f &&& (1 : Int32)) = (0 : Int32) then (0 : Int64) else ((0 : Int64) + (1 : Int64))) = (own_bt f (0 : Int32)).toInt64) (by decide +kernel) x
theorem own_nan0 (x : Int32) (q : Int64) : (if ((x &&& 63) &&& (1 : Int32)) = (0 : Int32) then (0 : Int64) else ((0 : Int64) + q)) = own_pick (x &&& 63) (0 : Int32) q := by
  unfold own_pick
  by_cases h : ((x &&& 63) &&& (1 : Int32)) = (0 : Int32)
  · rw [if_pos h, if_pos ((own_iff0 x).mp h)]
  · rw [if_neg h, if_neg (fun q => h ((own_iff0 x).mpr q)), Int64.zero_add]
theorem own_iff1 (x : Int32) : ((x &&& 63) &&& (2 : Int32) = (0 : Int32)) ↔ (own_bt (x &&& 63) (1 : Int32) = (0 : Int32)) := own_63 (fun f => (f &&& (2 : Int32) = (0 : Int32)) ↔ (own_bt f (1 : Int32) = (0 : Int32))) (by decide +kernel) x
theorem own_cnt1 (x : Int32) : (if ((x &&& 63) &&& (2 : Int32)) = (0 : Int32) then (0 : Int64) else ((0 : Int64) + (1 : Int64))) = (own_bt (x &&& 63) (1 : Int32)).toInt64 := own_63 (fun f => (if (f &&& (2 : Int32)) = (0 : Int32) then (0 : Int64) else ((0 : Int64) + (1 : Int64))) = (own_bt f (1 : Int32)).toInt64) (by decide +kernel) x
theorem own_nan1 (x : Int32) (q : Int64) : (if ((x &&& 63) &&& (2 : Int32)) = (0 : Int32) then (0 : Int64) else ((0 : Int64) + q)) = own_pick (x &&& 63) (1 : Int32) q := by
  unfold own_pick
  by_cases h : ((x &&& 63) &&& (2 : Int32)) = (0 : Int32)
  · rw [if_pos h, if_pos ((own_iff1 x).mp h)]
  · rw [if_neg h, if_neg (fun q => h ((own_iff1 x).mpr q)), Int64.zero_add]
theorem own_iff2 (x : Int32) : ((x &&& 63) &&& (4 : Int32) = (0 : Int32)) ↔ (own_bt (x &&& 63) (2 : Int32) = (0 : Int32)) := own_63 (fun f => (f &&& (4 : Int32) = (0 : Int32)) ↔ (own_bt f (2 : Int32) = (0 : Int32))) (by decide +kernel) x
theorem own_cnt2 (x : Int32) : (if ((x &&& 63) &&& (4 : Int32)) = (0 : Int32) then (0 : Int64) else ((0 : Int64) + (1 : Int64))) = (own_bt (x &&& 63) (2 : Int32)).toInt64 := own_63 (fun f => (if (f &&& (4 : Int32)) = (0 : Int32) then (0 : Int64) else ((0 : Int64) + (1 : Int64))) = (own_bt f (2 : Int32)).toInt64) (by decide +kernel) x
theorem own_nan2 (x : Int32) (q : Int64) : (if ((x &&& 63) &&& (4 : Int32)) = (0 : Int32) then (0 : Int64) else ((0 : Int64) + q)) = own_pick (x &&& 63) (2 : Int32) q := by
  unfold own_pick
  by_cases h : ((x &&& 63) &&& (4 : Int32)) = (0 : Int32)
  · rw [if_pos h, if_pos ((own_iff2 x).mp h)]
  · rw [if_neg h, if_neg (fun q => h ((own_iff2 x).mpr q)), Int64.zero_add]
theorem own_iff3 (x : Int32) : ((x &&& 63) &&& (8 : Int32) = (0 : Int32)) ↔ (own_bt (x &&& 63) (3 : Int32) = (0 : Int32)) := own_63 (fun f => (f &&& (8 : Int32) = (0 : Int32)) ↔ (own_bt f (3 : Int32) = (0 : Int32))) (by decide +kernel) x
theorem own_cnt3 (x : Int32) : (if ((x &&& 63) &&& (8 : Int32)) = (0 : Int32) then (0 : Int64) else ((0 : Int64) + (1 : Int64))) = (own_bt (x &&& 63) (3 : Int32)).toInt64 := own_63 (fun f => (if (f &&& (8 : Int32)) = (0 : Int32) then (0 : Int64) else ((0 : Int64) + (1 : Int64))) = (own_bt f (3 : Int32)).toInt64) (by decide +kernel) x
theorem own_nan3 (x : Int32) (q : Int64) : (if ((x &&& 63) &&& (8 : Int32)) = (0 : Int32) then (0 : Int64) else ((0 : Int64) + q)) = own_pick (x &&& 63) (3 : Int32) q := by
  unfold own_pick
  by_cases h : ((x &&& 63) &&& (8 : Int32)) = (0 : Int32)
  · rw [if_pos h, if_pos ((own_iff3 x).mp h)]
  · rw [if_neg h, if_neg (fun q => h ((own_iff3 x).mpr q)), Int64.zero_add]
theorem own_iff4 (x : Int32) : ((x &&& 63) &&& (16 : Int32) = (0 : Int32)) ↔ (own_bt (x &&& 63) (4 : Int32) = (0 : Int32)) := own_63 (fun f => (f &&& (16 : Int32) = (0 : Int32)) ↔ (own_bt f (4 : Int32) = (0 : Int32))) (by decide +kernel) x
theorem own_cnt4 (x : Int32) : (if ((x &&& 63) &&& (16 : Int32)) = (0 : Int32) then (0 : Int64) else ((0 : Int64) + (1 : Int64))) = (own_bt (x &&& 63) (4 : Int32)).toInt64 := own_63 (fun f => (if (f &&& (16 : Int32)) = (0 : Int32) then (0 : Int64) else ((0 : Int64) + (1 : Int64))) = (own_bt f (4 : Int32)).toInt64) (by decide +kernel) x
theorem own_nan4 (x : Int32) (q : Int64) : (if ((x &&& 63) &&& (16 : Int32)) = (0 : Int32) then (0 : Int64) else ((0 : Int64) + q)) = own_pick (x &&& 63) (4 : Int32) q := by
  unfold own_pick
  by_cases h : ((x &&& 63) &&& (16 : Int32)) = (0 : Int32)
  · rw [if_pos h, if_pos ((own_iff4 x).mp h)]
  · rw [if_neg h, if_neg (fun q => h ((own_iff4 x).mpr q)), Int64.zero_add]
theorem own_iff5 (x : Int32) : ((x &&& 63) &&& (32 : Int32) = (0 : Int32)) ↔ (own_bt (x &&& 63) (5 : Int32) = (0 : Int32)) := own_63 (fun f => (f &&& (32 : Int32) = (0 : Int32)) ↔ (own_bt f (5 : Int32) = (0 : Int32))) (by decide +kernel) x
theorem own_cnt5 (x : Int32) : (if ((x &&& 63) &&& (32 : Int32)) = (0 : Int32) then (0 : Int64) else ((0 : Int64) + (1 : Int64))) = (own_bt (x &&& 63) (5 : Int32)).toInt64 := own_63 (fun f => (if (f &&& (32 : Int32)) = (0 : Int32) then (0 : Int64) else ((0 : Int64) + (1 : Int64))) = (own_bt f (5 : Int32)).toInt64) (by decide +kernel) x
theorem own_nan5 (x : Int32) (q : Int64) : (if ((x &&& 63) &&& (32 : Int32)) = (0 : Int32) then (0 : Int64) else ((0 : Int64) + q)) = own_pick (x &&& 63) (5 : Int32) q := by
  unfold own_pick
  by_cases h : ((x &&& 63) &&& (32 : Int32)) = (0 : Int32)
  · rw [if_pos h, if_pos ((own_iff5 x).mp h)]
  · rw [if_neg h, if_neg (fun q => h ((own_iff5 x).mpr q)), Int64.zero_add]
theorem own_two (a b c d : Int64) : (a + c) + (b + d) = ((a + b) + c) + d := by ac_rfl
theorem own_add2 {a b c d : Int64} (h : a = c) (h' : b = d) : a + b = c + d := by rw [h, h']
theorem own_avg2 {a b c d : Int64} (h : a = c) (h' : b = d) : own_avg a b = own_avg c d := by rw [h, h']
theorem own_cnt45 (x : Int32) : (if ((x &&& 63) &&& (32 : Int32)) = (0 : Int32) then (if ((x &&& 63) &&& (16 : Int32)) = (0 : Int32) then (0 : Int64) else ((0 : Int64) + (1 : Int64))) else ((if ((x &&& 63) &&& (16 : Int32)) = (0 : Int32) then (0 : Int64) else ((0 : Int64) + (1 : Int64))) + (1 : Int64))) = (own_bt (x &&& 63) (4 : Int32)).toInt64 + (own_bt (x &&& 63) (5 : Int32)).toInt64 := by
  rw [← own_cnt4, ← own_cnt5]
  by_cases h : ((x &&& 63) &&& (32 : Int32)) = (0 : Int32)
  · rw [if_pos h, if_pos h, Int64.add_zero]
  · rw [if_neg h, if_neg h, Int64.zero_add]
theorem own_nan45 (x : Int32) (q r : Int64) : (if ((x &&& 63) &&& (32 : Int32)) = (0 : Int32) then (if ((x &&& 63) &&& (16 : Int32)) = (0 : Int32) then (0 : Int64) else ((0 : Int64) + q)) else ((if ((x &&& 63) &&& (16 : Int32)) = (0 : Int32) then (0 : Int64) else ((0 : Int64) + q)) + r)) = own_pick (x &&& 63) (4 : Int32) q + own_pick (x &&& 63) (5 : Int32) r := by
  rw [← own_nan4, ← own_nan5]
  by_cases h : ((x &&& 63) &&& (32 : Int32)) = (0 : Int32)
  · rw [if_pos h, if_pos h, Int64.add_zero]
  · rw [if_neg h, if_neg h, Int64.zero_add r]
theorem own_c45 (x y : Int32) {a b : Int64} (ha : a = (own_bt (x &&& 63) (4 : Int32)).toInt64 + (own_bt (x &&& 63) (5 : Int32)).toInt64) (hb : b = (own_bt (y &&& 63) (4 : Int32)).toInt64 + (own_bt (y &&& 63) (5 : Int32)).toInt64) : a + b = (((own_bt (x &&& 63) (4 : Int32)).toInt64 + (own_bt (y &&& 63) (4 : Int32)).toInt64) + (own_bt (x &&& 63) (5 : Int32)).toInt64) + (own_bt (y &&& 63) (5 : Int32)).toInt64 := by rw [ha, hb]; exact own_two _ _ _ _
theorem pd__II_J : parseMethodDescriptor "(II)J" = some ⟨[.int, .int], some .long⟩ := by decide +kernel
theorem pd__IIJ_J : parseMethodDescriptor "(IIJ)J" = some ⟨[.int, .int, .long], some .long⟩ := by decide +kernel
set_option maxRecDepth 65536 in
set_option maxHeartbeats 40000000 in
theorem sgla {p : Program} {l : Launch} {e : Env} {s : State} {m : MethodId} {args : Array Value} {below : List Frame} {meth : Method} {c : Code} {T0 : State} {locs : List Loc} (Z : State) (a0 : Array Value) (ns : Addr) (hG : Glob Z a0 ns) (q0 : Int64) (q1 : Int64) (q2 : Int64) (q3 : Int64) (q4 : Int64) (p5 : Int32) (f : Int32) (g : Int32) (x1 : Addr) (x2 : Addr) (x3 : Addr) (kc : Nat) (ks : Nat) (h0 : Heap) (n0 : Nat) (Z0 : n0 ≤ h0.size) (X00 : Old Z n0 h0) (hkc : kc + 0 ≤ room_1.cells) (hks : ks + 0 ≤ room_1.slots) (X0 : Stand p l e room_1 s m args below meth c T0 locs kc ks) (hx : p.tables.exec = Jvm.exec) (hZ : Z.Warmed39 s.vm) (hby : c.code = code) (hml : c.maxLocals = 36) (hown : s.vm.findClass "com/example/cistern/cistern/CountersAddPinLaw" = some m.cls) (e0 : T0.heap = h0) (N0 : Fr n0 locs) :
    ∃ v16 : Int64, ∃ v18 : Int64, ∃ v20 : Int64, ∃ v22 : Int64, ∃ (T' : State) (L' : List Loc), Stand p l e room_1 s m args below meth c T' L' kc ks ∧ Fr n0 L' ∧ Keep h0 T'.heap [] ∧ v16 = (own_bt f (0 : Int32)).toInt64 + (own_bt g (0 : Int32)).toInt64 ∧ v18 = (own_pick f (0 : Int32) q0) + (own_pick g (0 : Int32) q1) ∧ v20 = (own_bt f (1 : Int32)).toInt64 + (own_bt g (1 : Int32)).toInt64 ∧ v22 = (own_pick f (1 : Int32) q1) + (own_pick g (1 : Int32) q2) ∧ ∀ target, Steps p.tables e below (T'.setTop (mkF m 144 #[.val (.long q0), .second, .val (.long q1), .second, .val (.long q2), .second, .val (.long q3), .second, .val (.long q4), .second, .val (.int p5), .val (.int f), .val (.int g), .val (.ref x1), .val (.ref x2), .val (.ref x3), .val (.long v16), .second, .val (.long v18), .second, .val (.long v20), .second, .val (.long v22), .second, .unset, .unset, .unset, .unset, .unset, .unset, .unset, .unset, .unset, .unset, .unset, .unset] [])) target → Steps p.tables e below (T0.setTop (mkF m 79 #[.val (.long q0), .second, .val (.long q1), .second, .val (.long q2), .second, .val (.long q3), .second, .val (.long q4), .second, .val (.int p5), .val (.int f), .val (.int g), .val (.ref x1), .val (.ref x2), .val (.ref x3), .unset, .unset, .unset, .unset, .unset, .unset, .unset, .unset, .unset, .unset, .unset, .unset, .unset, .unset, .unset, .unset, .unset, .unset, .unset, .unset] [])) target := by
  obtain ⟨hw, O_ns, O_ens, O_scale, O_ratio⟩ := id hG
  have W : ∀ (i : Nat) {d : Jvm.Cond}, tables_1[i]? = some d → d.before a0 Z = true := fun i d h => hw d (List.mem_of_getElem? h)
  -- pc 82: com/example/cistern/cistern/CountersAddPinLaw.bit
  obtain ⟨_, _, ⟨T305, L305, k305, n305⟩, -, X305, ⟨Lc305, hQ305, l305, y305, z305⟩, st305⟩ := Jvm.LawKit.callS X0 hx (y := y21) hown (mvT hZ (W 104 rfl)) (mvT hZ (W 105 rfl)) (mvT hZ (W 11 rfl)) (mvT hZ (W 106 rfl)) (by decide) (backOf (W := 0) (rmbit l Z a0 ns hG [] f (0 : Int32) h0 n0 Z0 X00) hZ (W 106 rfl) (W 11 rfl) (by decide) (by decide)) (g := (mkF m 82 #[.val (.long q0), .second, .val (.long q1), .second, .val (.long q2), .second, .val (.long q3), .second, .val (.long q4), .second, .val (.int p5), .val (.int f), .val (.int g), .val (.ref x1), .val (.ref x2), .val (.ref x3), .unset, .unset, .unset, .unset, .unset, .unset, .unset, .unset, .unset, .unset, .unset, .unset, .unset, .unset, .unset, .unset, .unset, .unset, .unset, .unset] [(.int (0 : Int32)), (.int f)])) rfl (by rw [hml]; rfl) (argsL := [(.int f), (.int (0 : Int32))]) (rest := []) (lenOf pd__II_J rfl) rfl (by show 2 * 0 + _ ≤ _; exact Nat.le_of_eq rfl) (hb hby at_82) (fun _ _ => ⟨rfl, e0, (hkc : kc + 0 ≤ _), (hks : ks + 0 ≤ _)⟩)
  dsimp only [Pt.U, Pt.locs, Pt.cells, Pt.slots] at X305 l305 y305 z305 st305 hQ305
  subst l305 y305 z305
  obtain ⟨r_305, rfl, N305q, eq305, f305_0⟩ := hQ305
  have N305 := Fr.app N0 N305q
  -- pc 88: com/example/cistern/cistern/CountersAddPinLaw.bit
  obtain ⟨_, _, ⟨T306, L306, k306, n306⟩, -, X306, ⟨Lc306, hQ306, l306, y306, z306⟩, st306⟩ := Jvm.LawKit.callS X305 hx (y := y21) hown (mvT hZ (W 104 rfl)) (mvT hZ (W 105 rfl)) (mvT hZ (W 11 rfl)) (mvT hZ (W 106 rfl)) (by decide) (backOf (W := 2) (rmbit l Z a0 ns hG [] g (0 : Int32) h0 n0 Z0 X00) hZ (W 106 rfl) (W 11 rfl) (by decide) (by decide)) (g := (mkF m 88 #[.val (.long q0), .second, .val (.long q1), .second, .val (.long q2), .second, .val (.long q3), .second, .val (.long q4), .second, .val (.int p5), .val (.int f), .val (.int g), .val (.ref x1), .val (.ref x2), .val (.ref x3), .unset, .unset, .unset, .unset, .unset, .unset, .unset, .unset, .unset, .unset, .unset, .unset, .unset, .unset, .unset, .unset, .unset, .unset, .unset, .unset] [(.int (0 : Int32)), (.int g), (.long r_305)])) rfl (by rw [hml]; rfl) (argsL := [(.int g), (.int (0 : Int32))]) (rest := [(.long r_305)]) (lenOf pd__II_J rfl) rfl (by show 2 * 0 + _ ≤ _; exact Nat.le_of_eq rfl) (hb hby at_88) (fun _ _ => ⟨rfl, eq305, (hkc : k305 + 0 ≤ _), (hks : n305 + 0 ≤ _)⟩)
  dsimp only [Pt.U, Pt.locs, Pt.cells, Pt.slots] at X306 l306 y306 z306 st306 hQ306
  subst l306 y306 z306
  obtain ⟨r_306, rfl, N306q, eq306, f306_0⟩ := hQ306
  have N306 := Fr.app N305 N306q
  -- pc 98: com/example/cistern/cistern/CountersAddPinLaw.pick
  obtain ⟨_, _, ⟨T307, L307, k307, n307⟩, -, X307, ⟨Lc307, hQ307, l307, y307, z307⟩, st307⟩ := Jvm.LawKit.callS X306 hx (y := y22) hown (mvT hZ (W 107 rfl)) (mvT hZ (W 108 rfl)) (mvT hZ (W 11 rfl)) (mvT hZ (W 109 rfl)) (by decide) (backOf (W := 0) (rmpick l Z a0 ns hG [] f (0 : Int32) q0 h0 n0 Z0 X00) hZ (W 109 rfl) (W 11 rfl) (by decide) (by decide)) (g := (mkF m 98 #[.val (.long q0), .second, .val (.long q1), .second, .val (.long q2), .second, .val (.long q3), .second, .val (.long q4), .second, .val (.int p5), .val (.int f), .val (.int g), .val (.ref x1), .val (.ref x2), .val (.ref x3), .val (.long (r_305 + r_306)), .second, .unset, .unset, .unset, .unset, .unset, .unset, .unset, .unset, .unset, .unset, .unset, .unset, .unset, .unset, .unset, .unset, .unset, .unset] [(.long q0), (.int (0 : Int32)), (.int f)])) rfl (by rw [hml]; rfl) (argsL := [(.int f), (.int (0 : Int32)), (.long q0)]) (rest := []) (lenOf pd__IIJ_J rfl) rfl (by show 2 * 0 + _ ≤ _; exact Nat.le_of_eq rfl) (hb hby at_98) (fun _ _ => ⟨rfl, eq306, (hkc : k306 + 0 ≤ _), (hks : n306 + 0 ≤ _)⟩)
  dsimp only [Pt.U, Pt.locs, Pt.cells, Pt.slots] at X307 l307 y307 z307 st307 hQ307
  subst l307 y307 z307
  obtain ⟨r_307, rfl, N307q, eq307, f307_0⟩ := hQ307
  have N307 := Fr.app N306 N307q
  -- pc 105: com/example/cistern/cistern/CountersAddPinLaw.pick
  obtain ⟨_, _, ⟨T308, L308, k308, n308⟩, -, X308, ⟨Lc308, hQ308, l308, y308, z308⟩, st308⟩ := Jvm.LawKit.callS X307 hx (y := y22) hown (mvT hZ (W 107 rfl)) (mvT hZ (W 108 rfl)) (mvT hZ (W 11 rfl)) (mvT hZ (W 109 rfl)) (by decide) (backOf (W := 2) (rmpick l Z a0 ns hG [] g (0 : Int32) q1 h0 n0 Z0 X00) hZ (W 109 rfl) (W 11 rfl) (by decide) (by decide)) (g := (mkF m 105 #[.val (.long q0), .second, .val (.long q1), .second, .val (.long q2), .second, .val (.long q3), .second, .val (.long q4), .second, .val (.int p5), .val (.int f), .val (.int g), .val (.ref x1), .val (.ref x2), .val (.ref x3), .val (.long (r_305 + r_306)), .second, .unset, .unset, .unset, .unset, .unset, .unset, .unset, .unset, .unset, .unset, .unset, .unset, .unset, .unset, .unset, .unset, .unset, .unset] [(.long q1), (.int (0 : Int32)), (.int g), (.long r_307)])) rfl (by rw [hml]; rfl) (argsL := [(.int g), (.int (0 : Int32)), (.long q1)]) (rest := [(.long r_307)]) (lenOf pd__IIJ_J rfl) rfl (by show 2 * 0 + _ ≤ _; exact Nat.le_of_eq rfl) (hb hby at_105) (fun _ _ => ⟨rfl, eq307, (hkc : k307 + 0 ≤ _), (hks : n307 + 0 ≤ _)⟩)
  dsimp only [Pt.U, Pt.locs, Pt.cells, Pt.slots] at X308 l308 y308 z308 st308 hQ308
  subst l308 y308 z308
  obtain ⟨r_308, rfl, N308q, eq308, f308_0⟩ := hQ308
  have N308 := Fr.app N307 N308q
  -- pc 114: com/example/cistern/cistern/CountersAddPinLaw.bit
  obtain ⟨_, _, ⟨T309, L309, k309, n309⟩, -, X309, ⟨Lc309, hQ309, l309, y309, z309⟩, st309⟩ := Jvm.LawKit.callS X308 hx (y := y21) hown (mvT hZ (W 104 rfl)) (mvT hZ (W 105 rfl)) (mvT hZ (W 11 rfl)) (mvT hZ (W 106 rfl)) (by decide) (backOf (W := 0) (rmbit l Z a0 ns hG [] f (1 : Int32) h0 n0 Z0 X00) hZ (W 106 rfl) (W 11 rfl) (by decide) (by decide)) (g := (mkF m 114 #[.val (.long q0), .second, .val (.long q1), .second, .val (.long q2), .second, .val (.long q3), .second, .val (.long q4), .second, .val (.int p5), .val (.int f), .val (.int g), .val (.ref x1), .val (.ref x2), .val (.ref x3), .val (.long (r_305 + r_306)), .second, .val (.long (r_307 + r_308)), .second, .unset, .unset, .unset, .unset, .unset, .unset, .unset, .unset, .unset, .unset, .unset, .unset, .unset, .unset, .unset, .unset] [(.int (1 : Int32)), (.int f)])) rfl (by rw [hml]; rfl) (argsL := [(.int f), (.int (1 : Int32))]) (rest := []) (lenOf pd__II_J rfl) rfl (by show 2 * 0 + _ ≤ _; exact Nat.le_of_eq rfl) (hb hby at_114) (fun _ _ => ⟨rfl, eq308, (hkc : k308 + 0 ≤ _), (hks : n308 + 0 ≤ _)⟩)
  dsimp only [Pt.U, Pt.locs, Pt.cells, Pt.slots] at X309 l309 y309 z309 st309 hQ309
  subst l309 y309 z309
  obtain ⟨r_309, rfl, N309q, eq309, f309_0⟩ := hQ309
  have N309 := Fr.app N308 N309q
  -- pc 120: com/example/cistern/cistern/CountersAddPinLaw.bit
  obtain ⟨_, _, ⟨T310, L310, k310, n310⟩, -, X310, ⟨Lc310, hQ310, l310, y310, z310⟩, st310⟩ := Jvm.LawKit.callS X309 hx (y := y21) hown (mvT hZ (W 104 rfl)) (mvT hZ (W 105 rfl)) (mvT hZ (W 11 rfl)) (mvT hZ (W 106 rfl)) (by decide) (backOf (W := 2) (rmbit l Z a0 ns hG [] g (1 : Int32) h0 n0 Z0 X00) hZ (W 106 rfl) (W 11 rfl) (by decide) (by decide)) (g := (mkF m 120 #[.val (.long q0), .second, .val (.long q1), .second, .val (.long q2), .second, .val (.long q3), .second, .val (.long q4), .second, .val (.int p5), .val (.int f), .val (.int g), .val (.ref x1), .val (.ref x2), .val (.ref x3), .val (.long (r_305 + r_306)), .second, .val (.long (r_307 + r_308)), .second, .unset, .unset, .unset, .unset, .unset, .unset, .unset, .unset, .unset, .unset, .unset, .unset, .unset, .unset, .unset, .unset] [(.int (1 : Int32)), (.int g), (.long r_309)])) rfl (by rw [hml]; rfl) (argsL := [(.int g), (.int (1 : Int32))]) (rest := [(.long r_309)]) (lenOf pd__II_J rfl) rfl (by show 2 * 0 + _ ≤ _; exact Nat.le_of_eq rfl) (hb hby at_120) (fun _ _ => ⟨rfl, eq309, (hkc : k309 + 0 ≤ _), (hks : n309 + 0 ≤ _)⟩)
  dsimp only [Pt.U, Pt.locs, Pt.cells, Pt.slots] at X310 l310 y310 z310 st310 hQ310
  subst l310 y310 z310
  obtain ⟨r_310, rfl, N310q, eq310, f310_0⟩ := hQ310
  have N310 := Fr.app N309 N310q
  -- pc 130: com/example/cistern/cistern/CountersAddPinLaw.pick
  obtain ⟨_, _, ⟨T311, L311, k311, n311⟩, -, X311, ⟨Lc311, hQ311, l311, y311, z311⟩, st311⟩ := Jvm.LawKit.callS X310 hx (y := y22) hown (mvT hZ (W 107 rfl)) (mvT hZ (W 108 rfl)) (mvT hZ (W 11 rfl)) (mvT hZ (W 109 rfl)) (by decide) (backOf (W := 0) (rmpick l Z a0 ns hG [] f (1 : Int32) q1 h0 n0 Z0 X00) hZ (W 109 rfl) (W 11 rfl) (by decide) (by decide)) (g := (mkF m 130 #[.val (.long q0), .second, .val (.long q1), .second, .val (.long q2), .second, .val (.long q3), .second, .val (.long q4), .second, .val (.int p5), .val (.int f), .val (.int g), .val (.ref x1), .val (.ref x2), .val (.ref x3), .val (.long (r_305 + r_306)), .second, .val (.long (r_307 + r_308)), .second, .val (.long (r_309 + r_310)), .second, .unset, .unset, .unset, .unset, .unset, .unset, .unset, .unset, .unset, .unset, .unset, .unset, .unset, .unset] [(.long q1), (.int (1 : Int32)), (.int f)])) rfl (by rw [hml]; rfl) (argsL := [(.int f), (.int (1 : Int32)), (.long q1)]) (rest := []) (lenOf pd__IIJ_J rfl) rfl (by show 2 * 0 + _ ≤ _; exact Nat.le_of_eq rfl) (hb hby at_130) (fun _ _ => ⟨rfl, eq310, (hkc : k310 + 0 ≤ _), (hks : n310 + 0 ≤ _)⟩)
  dsimp only [Pt.U, Pt.locs, Pt.cells, Pt.slots] at X311 l311 y311 z311 st311 hQ311
  subst l311 y311 z311
  obtain ⟨r_311, rfl, N311q, eq311, f311_0⟩ := hQ311
  have N311 := Fr.app N310 N311q
  -- pc 138: com/example/cistern/cistern/CountersAddPinLaw.pick
  obtain ⟨_, _, ⟨T312, L312, k312, n312⟩, -, X312, ⟨Lc312, hQ312, l312, y312, z312⟩, st312⟩ := Jvm.LawKit.callS X311 hx (y := y22) hown (mvT hZ (W 107 rfl)) (mvT hZ (W 108 rfl)) (mvT hZ (W 11 rfl)) (mvT hZ (W 109 rfl)) (by decide) (backOf (W := 2) (rmpick l Z a0 ns hG [] g (1 : Int32) q2 h0 n0 Z0 X00) hZ (W 109 rfl) (W 11 rfl) (by decide) (by decide)) (g := (mkF m 138 #[.val (.long q0), .second, .val (.long q1), .second, .val (.long q2), .second, .val (.long q3), .second, .val (.long q4), .second, .val (.int p5), .val (.int f), .val (.int g), .val (.ref x1), .val (.ref x2), .val (.ref x3), .val (.long (r_305 + r_306)), .second, .val (.long (r_307 + r_308)), .second, .val (.long (r_309 + r_310)), .second, .unset, .unset, .unset, .unset, .unset, .unset, .unset, .unset, .unset, .unset, .unset, .unset, .unset, .unset] [(.long q2), (.int (1 : Int32)), (.int g), (.long r_311)])) rfl (by rw [hml]; rfl) (argsL := [(.int g), (.int (1 : Int32)), (.long q2)]) (rest := [(.long r_311)]) (lenOf pd__IIJ_J rfl) rfl (by show 2 * 0 + _ ≤ _; exact Nat.le_of_eq rfl) (hb hby at_138) (fun _ _ => ⟨rfl, eq311, (hkc : k311 + 0 ≤ _), (hks : n311 + 0 ≤ _)⟩)
  dsimp only [Pt.U, Pt.locs, Pt.cells, Pt.slots] at X312 l312 y312 z312 st312 hQ312
  subst l312 y312 z312
  obtain ⟨r_312, rfl, N312q, eq312, f312_0⟩ := hQ312
  have N312 := Fr.app N311 N312q
  refine ⟨(r_305 + r_306), (r_307 + r_308), (r_309 + r_310), (r_311 + r_312), T312, _, X312, N312, ?_⟩
  rw [eq312]
  refine ⟨(Keep.refl h0 []), by rw [f305_0, f306_0], by rw [f307_0, f308_0], by rw [f309_0, f310_0], by rw [f311_0, f312_0], fun target kt => ?_⟩
  show Steps p.tables e below (T0.setTop (mkF m 79 #[.val (.long q0), .second, .val (.long q1), .second, .val (.long q2), .second, .val (.long q3), .second, .val (.long q4), .second, .val (.int p5), .val (.int f), .val (.int g), .val (.ref x1), .val (.ref x2), .val (.ref x3), .unset, .unset, .unset, .unset, .unset, .unset, .unset, .unset, .unset, .unset, .unset, .unset, .unset, .unset, .unset, .unset, .unset, .unset, .unset, .unset] [])) _
  refine XS.iload X0.here hx rfl (hb hby at_79) rfl ?_
  show Steps p.tables e below (T0.setTop (mkF m 81 #[.val (.long q0), .second, .val (.long q1), .second, .val (.long q2), .second, .val (.long q3), .second, .val (.long q4), .second, .val (.int p5), .val (.int f), .val (.int g), .val (.ref x1), .val (.ref x2), .val (.ref x3), .unset, .unset, .unset, .unset, .unset, .unset, .unset, .unset, .unset, .unset, .unset, .unset, .unset, .unset, .unset, .unset, .unset, .unset, .unset, .unset] [(.int f)])) _
  refine XS.iconst X0.here hx rfl (hb hby at_81) ?_
  show Steps p.tables e below (T0.setTop (mkF m 82 #[.val (.long q0), .second, .val (.long q1), .second, .val (.long q2), .second, .val (.long q3), .second, .val (.long q4), .second, .val (.int p5), .val (.int f), .val (.int g), .val (.ref x1), .val (.ref x2), .val (.ref x3), .unset, .unset, .unset, .unset, .unset, .unset, .unset, .unset, .unset, .unset, .unset, .unset, .unset, .unset, .unset, .unset, .unset, .unset, .unset, .unset] [(.int (0 : Int32)), (.int f)])) _
  refine st305 _ ?_
  show Steps p.tables e below (T305.setTop (mkF m 85 #[.val (.long q0), .second, .val (.long q1), .second, .val (.long q2), .second, .val (.long q3), .second, .val (.long q4), .second, .val (.int p5), .val (.int f), .val (.int g), .val (.ref x1), .val (.ref x2), .val (.ref x3), .unset, .unset, .unset, .unset, .unset, .unset, .unset, .unset, .unset, .unset, .unset, .unset, .unset, .unset, .unset, .unset, .unset, .unset, .unset, .unset] [(.long r_305)])) _
  refine XS.iload X305.here hx rfl (hb hby at_85) rfl ?_
  show Steps p.tables e below (T305.setTop (mkF m 87 #[.val (.long q0), .second, .val (.long q1), .second, .val (.long q2), .second, .val (.long q3), .second, .val (.long q4), .second, .val (.int p5), .val (.int f), .val (.int g), .val (.ref x1), .val (.ref x2), .val (.ref x3), .unset, .unset, .unset, .unset, .unset, .unset, .unset, .unset, .unset, .unset, .unset, .unset, .unset, .unset, .unset, .unset, .unset, .unset, .unset, .unset] [(.int g), (.long r_305)])) _
  refine XS.iconst X305.here hx rfl (hb hby at_87) ?_
  show Steps p.tables e below (T305.setTop (mkF m 88 #[.val (.long q0), .second, .val (.long q1), .second, .val (.long q2), .second, .val (.long q3), .second, .val (.long q4), .second, .val (.int p5), .val (.int f), .val (.int g), .val (.ref x1), .val (.ref x2), .val (.ref x3), .unset, .unset, .unset, .unset, .unset, .unset, .unset, .unset, .unset, .unset, .unset, .unset, .unset, .unset, .unset, .unset, .unset, .unset, .unset, .unset] [(.int (0 : Int32)), (.int g), (.long r_305)])) _
  refine st306 _ ?_
  show Steps p.tables e below (T306.setTop (mkF m 91 #[.val (.long q0), .second, .val (.long q1), .second, .val (.long q2), .second, .val (.long q3), .second, .val (.long q4), .second, .val (.int p5), .val (.int f), .val (.int g), .val (.ref x1), .val (.ref x2), .val (.ref x3), .unset, .unset, .unset, .unset, .unset, .unset, .unset, .unset, .unset, .unset, .unset, .unset, .unset, .unset, .unset, .unset, .unset, .unset, .unset, .unset] [(.long r_306), (.long r_305)])) _
  refine XS.ladd X306.here hx rfl (hb hby at_91) rfl ?_
  show Steps p.tables e below (T306.setTop (mkF m 92 #[.val (.long q0), .second, .val (.long q1), .second, .val (.long q2), .second, .val (.long q3), .second, .val (.long q4), .second, .val (.int p5), .val (.int f), .val (.int g), .val (.ref x1), .val (.ref x2), .val (.ref x3), .unset, .unset, .unset, .unset, .unset, .unset, .unset, .unset, .unset, .unset, .unset, .unset, .unset, .unset, .unset, .unset, .unset, .unset, .unset, .unset] [(.long (r_305 + r_306))])) _
  refine XS.lstore X306.here hx rfl (hb hby at_92) rfl (l' := #[.val (.long q0), .second, .val (.long q1), .second, .val (.long q2), .second, .val (.long q3), .second, .val (.long q4), .second, .val (.int p5), .val (.int f), .val (.int g), .val (.ref x1), .val (.ref x2), .val (.ref x3), .val (.long (r_305 + r_306)), .second, .unset, .unset, .unset, .unset, .unset, .unset, .unset, .unset, .unset, .unset, .unset, .unset, .unset, .unset, .unset, .unset, .unset, .unset]) rfl ?_
  show Steps p.tables e below (T306.setTop (mkF m 94 #[.val (.long q0), .second, .val (.long q1), .second, .val (.long q2), .second, .val (.long q3), .second, .val (.long q4), .second, .val (.int p5), .val (.int f), .val (.int g), .val (.ref x1), .val (.ref x2), .val (.ref x3), .val (.long (r_305 + r_306)), .second, .unset, .unset, .unset, .unset, .unset, .unset, .unset, .unset, .unset, .unset, .unset, .unset, .unset, .unset, .unset, .unset, .unset, .unset] [])) _
  refine XS.iload X306.here hx rfl (hb hby at_94) rfl ?_
  show Steps p.tables e below (T306.setTop (mkF m 96 #[.val (.long q0), .second, .val (.long q1), .second, .val (.long q2), .second, .val (.long q3), .second, .val (.long q4), .second, .val (.int p5), .val (.int f), .val (.int g), .val (.ref x1), .val (.ref x2), .val (.ref x3), .val (.long (r_305 + r_306)), .second, .unset, .unset, .unset, .unset, .unset, .unset, .unset, .unset, .unset, .unset, .unset, .unset, .unset, .unset, .unset, .unset, .unset, .unset] [(.int f)])) _
  refine XS.iconst X306.here hx rfl (hb hby at_96) ?_
  show Steps p.tables e below (T306.setTop (mkF m 97 #[.val (.long q0), .second, .val (.long q1), .second, .val (.long q2), .second, .val (.long q3), .second, .val (.long q4), .second, .val (.int p5), .val (.int f), .val (.int g), .val (.ref x1), .val (.ref x2), .val (.ref x3), .val (.long (r_305 + r_306)), .second, .unset, .unset, .unset, .unset, .unset, .unset, .unset, .unset, .unset, .unset, .unset, .unset, .unset, .unset, .unset, .unset, .unset, .unset] [(.int (0 : Int32)), (.int f)])) _
  refine XS.lloadN X306.here hx rfl (hb hby at_97) rfl ?_
  show Steps p.tables e below (T306.setTop (mkF m 98 #[.val (.long q0), .second, .val (.long q1), .second, .val (.long q2), .second, .val (.long q3), .second, .val (.long q4), .second, .val (.int p5), .val (.int f), .val (.int g), .val (.ref x1), .val (.ref x2), .val (.ref x3), .val (.long (r_305 + r_306)), .second, .unset, .unset, .unset, .unset, .unset, .unset, .unset, .unset, .unset, .unset, .unset, .unset, .unset, .unset, .unset, .unset, .unset, .unset] [(.long q0), (.int (0 : Int32)), (.int f)])) _
  refine st307 _ ?_
  show Steps p.tables e below (T307.setTop (mkF m 101 #[.val (.long q0), .second, .val (.long q1), .second, .val (.long q2), .second, .val (.long q3), .second, .val (.long q4), .second, .val (.int p5), .val (.int f), .val (.int g), .val (.ref x1), .val (.ref x2), .val (.ref x3), .val (.long (r_305 + r_306)), .second, .unset, .unset, .unset, .unset, .unset, .unset, .unset, .unset, .unset, .unset, .unset, .unset, .unset, .unset, .unset, .unset, .unset, .unset] [(.long r_307)])) _
  refine XS.iload X307.here hx rfl (hb hby at_101) rfl ?_
  show Steps p.tables e below (T307.setTop (mkF m 103 #[.val (.long q0), .second, .val (.long q1), .second, .val (.long q2), .second, .val (.long q3), .second, .val (.long q4), .second, .val (.int p5), .val (.int f), .val (.int g), .val (.ref x1), .val (.ref x2), .val (.ref x3), .val (.long (r_305 + r_306)), .second, .unset, .unset, .unset, .unset, .unset, .unset, .unset, .unset, .unset, .unset, .unset, .unset, .unset, .unset, .unset, .unset, .unset, .unset] [(.int g), (.long r_307)])) _
  refine XS.iconst X307.here hx rfl (hb hby at_103) ?_
  show Steps p.tables e below (T307.setTop (mkF m 104 #[.val (.long q0), .second, .val (.long q1), .second, .val (.long q2), .second, .val (.long q3), .second, .val (.long q4), .second, .val (.int p5), .val (.int f), .val (.int g), .val (.ref x1), .val (.ref x2), .val (.ref x3), .val (.long (r_305 + r_306)), .second, .unset, .unset, .unset, .unset, .unset, .unset, .unset, .unset, .unset, .unset, .unset, .unset, .unset, .unset, .unset, .unset, .unset, .unset] [(.int (0 : Int32)), (.int g), (.long r_307)])) _
  refine XS.lloadN X307.here hx rfl (hb hby at_104) rfl ?_
  show Steps p.tables e below (T307.setTop (mkF m 105 #[.val (.long q0), .second, .val (.long q1), .second, .val (.long q2), .second, .val (.long q3), .second, .val (.long q4), .second, .val (.int p5), .val (.int f), .val (.int g), .val (.ref x1), .val (.ref x2), .val (.ref x3), .val (.long (r_305 + r_306)), .second, .unset, .unset, .unset, .unset, .unset, .unset, .unset, .unset, .unset, .unset, .unset, .unset, .unset, .unset, .unset, .unset, .unset, .unset] [(.long q1), (.int (0 : Int32)), (.int g), (.long r_307)])) _
  refine st308 _ ?_
  show Steps p.tables e below (T308.setTop (mkF m 108 #[.val (.long q0), .second, .val (.long q1), .second, .val (.long q2), .second, .val (.long q3), .second, .val (.long q4), .second, .val (.int p5), .val (.int f), .val (.int g), .val (.ref x1), .val (.ref x2), .val (.ref x3), .val (.long (r_305 + r_306)), .second, .unset, .unset, .unset, .unset, .unset, .unset, .unset, .unset, .unset, .unset, .unset, .unset, .unset, .unset, .unset, .unset, .unset, .unset] [(.long r_308), (.long r_307)])) _
  refine XS.ladd X308.here hx rfl (hb hby at_108) rfl ?_
  show Steps p.tables e below (T308.setTop (mkF m 109 #[.val (.long q0), .second, .val (.long q1), .second, .val (.long q2), .second, .val (.long q3), .second, .val (.long q4), .second, .val (.int p5), .val (.int f), .val (.int g), .val (.ref x1), .val (.ref x2), .val (.ref x3), .val (.long (r_305 + r_306)), .second, .unset, .unset, .unset, .unset, .unset, .unset, .unset, .unset, .unset, .unset, .unset, .unset, .unset, .unset, .unset, .unset, .unset, .unset] [(.long (r_307 + r_308))])) _
  refine XS.lstore X308.here hx rfl (hb hby at_109) rfl (l' := #[.val (.long q0), .second, .val (.long q1), .second, .val (.long q2), .second, .val (.long q3), .second, .val (.long q4), .second, .val (.int p5), .val (.int f), .val (.int g), .val (.ref x1), .val (.ref x2), .val (.ref x3), .val (.long (r_305 + r_306)), .second, .val (.long (r_307 + r_308)), .second, .unset, .unset, .unset, .unset, .unset, .unset, .unset, .unset, .unset, .unset, .unset, .unset, .unset, .unset, .unset, .unset]) rfl ?_
  show Steps p.tables e below (T308.setTop (mkF m 111 #[.val (.long q0), .second, .val (.long q1), .second, .val (.long q2), .second, .val (.long q3), .second, .val (.long q4), .second, .val (.int p5), .val (.int f), .val (.int g), .val (.ref x1), .val (.ref x2), .val (.ref x3), .val (.long (r_305 + r_306)), .second, .val (.long (r_307 + r_308)), .second, .unset, .unset, .unset, .unset, .unset, .unset, .unset, .unset, .unset, .unset, .unset, .unset, .unset, .unset, .unset, .unset] [])) _
  refine XS.iload X308.here hx rfl (hb hby at_111) rfl ?_
  show Steps p.tables e below (T308.setTop (mkF m 113 #[.val (.long q0), .second, .val (.long q1), .second, .val (.long q2), .second, .val (.long q3), .second, .val (.long q4), .second, .val (.int p5), .val (.int f), .val (.int g), .val (.ref x1), .val (.ref x2), .val (.ref x3), .val (.long (r_305 + r_306)), .second, .val (.long (r_307 + r_308)), .second, .unset, .unset, .unset, .unset, .unset, .unset, .unset, .unset, .unset, .unset, .unset, .unset, .unset, .unset, .unset, .unset] [(.int f)])) _
  refine XS.iconst X308.here hx rfl (hb hby at_113) ?_
  show Steps p.tables e below (T308.setTop (mkF m 114 #[.val (.long q0), .second, .val (.long q1), .second, .val (.long q2), .second, .val (.long q3), .second, .val (.long q4), .second, .val (.int p5), .val (.int f), .val (.int g), .val (.ref x1), .val (.ref x2), .val (.ref x3), .val (.long (r_305 + r_306)), .second, .val (.long (r_307 + r_308)), .second, .unset, .unset, .unset, .unset, .unset, .unset, .unset, .unset, .unset, .unset, .unset, .unset, .unset, .unset, .unset, .unset] [(.int (1 : Int32)), (.int f)])) _
  refine st309 _ ?_
  show Steps p.tables e below (T309.setTop (mkF m 117 #[.val (.long q0), .second, .val (.long q1), .second, .val (.long q2), .second, .val (.long q3), .second, .val (.long q4), .second, .val (.int p5), .val (.int f), .val (.int g), .val (.ref x1), .val (.ref x2), .val (.ref x3), .val (.long (r_305 + r_306)), .second, .val (.long (r_307 + r_308)), .second, .unset, .unset, .unset, .unset, .unset, .unset, .unset, .unset, .unset, .unset, .unset, .unset, .unset, .unset, .unset, .unset] [(.long r_309)])) _
  refine XS.iload X309.here hx rfl (hb hby at_117) rfl ?_
  show Steps p.tables e below (T309.setTop (mkF m 119 #[.val (.long q0), .second, .val (.long q1), .second, .val (.long q2), .second, .val (.long q3), .second, .val (.long q4), .second, .val (.int p5), .val (.int f), .val (.int g), .val (.ref x1), .val (.ref x2), .val (.ref x3), .val (.long (r_305 + r_306)), .second, .val (.long (r_307 + r_308)), .second, .unset, .unset, .unset, .unset, .unset, .unset, .unset, .unset, .unset, .unset, .unset, .unset, .unset, .unset, .unset, .unset] [(.int g), (.long r_309)])) _
  refine XS.iconst X309.here hx rfl (hb hby at_119) ?_
  show Steps p.tables e below (T309.setTop (mkF m 120 #[.val (.long q0), .second, .val (.long q1), .second, .val (.long q2), .second, .val (.long q3), .second, .val (.long q4), .second, .val (.int p5), .val (.int f), .val (.int g), .val (.ref x1), .val (.ref x2), .val (.ref x3), .val (.long (r_305 + r_306)), .second, .val (.long (r_307 + r_308)), .second, .unset, .unset, .unset, .unset, .unset, .unset, .unset, .unset, .unset, .unset, .unset, .unset, .unset, .unset, .unset, .unset] [(.int (1 : Int32)), (.int g), (.long r_309)])) _
  refine st310 _ ?_
  show Steps p.tables e below (T310.setTop (mkF m 123 #[.val (.long q0), .second, .val (.long q1), .second, .val (.long q2), .second, .val (.long q3), .second, .val (.long q4), .second, .val (.int p5), .val (.int f), .val (.int g), .val (.ref x1), .val (.ref x2), .val (.ref x3), .val (.long (r_305 + r_306)), .second, .val (.long (r_307 + r_308)), .second, .unset, .unset, .unset, .unset, .unset, .unset, .unset, .unset, .unset, .unset, .unset, .unset, .unset, .unset, .unset, .unset] [(.long r_310), (.long r_309)])) _
  refine XS.ladd X310.here hx rfl (hb hby at_123) rfl ?_
  show Steps p.tables e below (T310.setTop (mkF m 124 #[.val (.long q0), .second, .val (.long q1), .second, .val (.long q2), .second, .val (.long q3), .second, .val (.long q4), .second, .val (.int p5), .val (.int f), .val (.int g), .val (.ref x1), .val (.ref x2), .val (.ref x3), .val (.long (r_305 + r_306)), .second, .val (.long (r_307 + r_308)), .second, .unset, .unset, .unset, .unset, .unset, .unset, .unset, .unset, .unset, .unset, .unset, .unset, .unset, .unset, .unset, .unset] [(.long (r_309 + r_310))])) _
  refine XS.lstore X310.here hx rfl (hb hby at_124) rfl (l' := #[.val (.long q0), .second, .val (.long q1), .second, .val (.long q2), .second, .val (.long q3), .second, .val (.long q4), .second, .val (.int p5), .val (.int f), .val (.int g), .val (.ref x1), .val (.ref x2), .val (.ref x3), .val (.long (r_305 + r_306)), .second, .val (.long (r_307 + r_308)), .second, .val (.long (r_309 + r_310)), .second, .unset, .unset, .unset, .unset, .unset, .unset, .unset, .unset, .unset, .unset, .unset, .unset, .unset, .unset]) rfl ?_
  show Steps p.tables e below (T310.setTop (mkF m 126 #[.val (.long q0), .second, .val (.long q1), .second, .val (.long q2), .second, .val (.long q3), .second, .val (.long q4), .second, .val (.int p5), .val (.int f), .val (.int g), .val (.ref x1), .val (.ref x2), .val (.ref x3), .val (.long (r_305 + r_306)), .second, .val (.long (r_307 + r_308)), .second, .val (.long (r_309 + r_310)), .second, .unset, .unset, .unset, .unset, .unset, .unset, .unset, .unset, .unset, .unset, .unset, .unset, .unset, .unset] [])) _
  refine XS.iload X310.here hx rfl (hb hby at_126) rfl ?_
  show Steps p.tables e below (T310.setTop (mkF m 128 #[.val (.long q0), .second, .val (.long q1), .second, .val (.long q2), .second, .val (.long q3), .second, .val (.long q4), .second, .val (.int p5), .val (.int f), .val (.int g), .val (.ref x1), .val (.ref x2), .val (.ref x3), .val (.long (r_305 + r_306)), .second, .val (.long (r_307 + r_308)), .second, .val (.long (r_309 + r_310)), .second, .unset, .unset, .unset, .unset, .unset, .unset, .unset, .unset, .unset, .unset, .unset, .unset, .unset, .unset] [(.int f)])) _
  refine XS.iconst X310.here hx rfl (hb hby at_128) ?_
  show Steps p.tables e below (T310.setTop (mkF m 129 #[.val (.long q0), .second, .val (.long q1), .second, .val (.long q2), .second, .val (.long q3), .second, .val (.long q4), .second, .val (.int p5), .val (.int f), .val (.int g), .val (.ref x1), .val (.ref x2), .val (.ref x3), .val (.long (r_305 + r_306)), .second, .val (.long (r_307 + r_308)), .second, .val (.long (r_309 + r_310)), .second, .unset, .unset, .unset, .unset, .unset, .unset, .unset, .unset, .unset, .unset, .unset, .unset, .unset, .unset] [(.int (1 : Int32)), (.int f)])) _
  refine XS.lloadN X310.here hx rfl (hb hby at_129) rfl ?_
  show Steps p.tables e below (T310.setTop (mkF m 130 #[.val (.long q0), .second, .val (.long q1), .second, .val (.long q2), .second, .val (.long q3), .second, .val (.long q4), .second, .val (.int p5), .val (.int f), .val (.int g), .val (.ref x1), .val (.ref x2), .val (.ref x3), .val (.long (r_305 + r_306)), .second, .val (.long (r_307 + r_308)), .second, .val (.long (r_309 + r_310)), .second, .unset, .unset, .unset, .unset, .unset, .unset, .unset, .unset, .unset, .unset, .unset, .unset, .unset, .unset] [(.long q1), (.int (1 : Int32)), (.int f)])) _
  refine st311 _ ?_
  show Steps p.tables e below (T311.setTop (mkF m 133 #[.val (.long q0), .second, .val (.long q1), .second, .val (.long q2), .second, .val (.long q3), .second, .val (.long q4), .second, .val (.int p5), .val (.int f), .val (.int g), .val (.ref x1), .val (.ref x2), .val (.ref x3), .val (.long (r_305 + r_306)), .second, .val (.long (r_307 + r_308)), .second, .val (.long (r_309 + r_310)), .second, .unset, .unset, .unset, .unset, .unset, .unset, .unset, .unset, .unset, .unset, .unset, .unset, .unset, .unset] [(.long r_311)])) _
  refine XS.iload X311.here hx rfl (hb hby at_133) rfl ?_
  show Steps p.tables e below (T311.setTop (mkF m 135 #[.val (.long q0), .second, .val (.long q1), .second, .val (.long q2), .second, .val (.long q3), .second, .val (.long q4), .second, .val (.int p5), .val (.int f), .val (.int g), .val (.ref x1), .val (.ref x2), .val (.ref x3), .val (.long (r_305 + r_306)), .second, .val (.long (r_307 + r_308)), .second, .val (.long (r_309 + r_310)), .second, .unset, .unset, .unset, .unset, .unset, .unset, .unset, .unset, .unset, .unset, .unset, .unset, .unset, .unset] [(.int g), (.long r_311)])) _
  refine XS.iconst X311.here hx rfl (hb hby at_135) ?_
  show Steps p.tables e below (T311.setTop (mkF m 136 #[.val (.long q0), .second, .val (.long q1), .second, .val (.long q2), .second, .val (.long q3), .second, .val (.long q4), .second, .val (.int p5), .val (.int f), .val (.int g), .val (.ref x1), .val (.ref x2), .val (.ref x3), .val (.long (r_305 + r_306)), .second, .val (.long (r_307 + r_308)), .second, .val (.long (r_309 + r_310)), .second, .unset, .unset, .unset, .unset, .unset, .unset, .unset, .unset, .unset, .unset, .unset, .unset, .unset, .unset] [(.int (1 : Int32)), (.int g), (.long r_311)])) _
  refine XS.lload X311.here hx rfl (hb hby at_136) rfl ?_
  show Steps p.tables e below (T311.setTop (mkF m 138 #[.val (.long q0), .second, .val (.long q1), .second, .val (.long q2), .second, .val (.long q3), .second, .val (.long q4), .second, .val (.int p5), .val (.int f), .val (.int g), .val (.ref x1), .val (.ref x2), .val (.ref x3), .val (.long (r_305 + r_306)), .second, .val (.long (r_307 + r_308)), .second, .val (.long (r_309 + r_310)), .second, .unset, .unset, .unset, .unset, .unset, .unset, .unset, .unset, .unset, .unset, .unset, .unset, .unset, .unset] [(.long q2), (.int (1 : Int32)), (.int g), (.long r_311)])) _
  refine st312 _ ?_
  show Steps p.tables e below (T312.setTop (mkF m 141 #[.val (.long q0), .second, .val (.long q1), .second, .val (.long q2), .second, .val (.long q3), .second, .val (.long q4), .second, .val (.int p5), .val (.int f), .val (.int g), .val (.ref x1), .val (.ref x2), .val (.ref x3), .val (.long (r_305 + r_306)), .second, .val (.long (r_307 + r_308)), .second, .val (.long (r_309 + r_310)), .second, .unset, .unset, .unset, .unset, .unset, .unset, .unset, .unset, .unset, .unset, .unset, .unset, .unset, .unset] [(.long r_312), (.long r_311)])) _
  refine XS.ladd X312.here hx rfl (hb hby at_141) rfl ?_
  show Steps p.tables e below (T312.setTop (mkF m 142 #[.val (.long q0), .second, .val (.long q1), .second, .val (.long q2), .second, .val (.long q3), .second, .val (.long q4), .second, .val (.int p5), .val (.int f), .val (.int g), .val (.ref x1), .val (.ref x2), .val (.ref x3), .val (.long (r_305 + r_306)), .second, .val (.long (r_307 + r_308)), .second, .val (.long (r_309 + r_310)), .second, .unset, .unset, .unset, .unset, .unset, .unset, .unset, .unset, .unset, .unset, .unset, .unset, .unset, .unset] [(.long (r_311 + r_312))])) _
  refine XS.lstore X312.here hx rfl (hb hby at_142) rfl (l' := #[.val (.long q0), .second, .val (.long q1), .second, .val (.long q2), .second, .val (.long q3), .second, .val (.long q4), .second, .val (.int p5), .val (.int f), .val (.int g), .val (.ref x1), .val (.ref x2), .val (.ref x3), .val (.long (r_305 + r_306)), .second, .val (.long (r_307 + r_308)), .second, .val (.long (r_309 + r_310)), .second, .val (.long (r_311 + r_312)), .second, .unset, .unset, .unset, .unset, .unset, .unset, .unset, .unset, .unset, .unset, .unset, .unset]) rfl ?_
  exact kt
set_option maxRecDepth 65536 in
set_option maxHeartbeats 40000000 in
theorem sglb {p : Program} {l : Launch} {e : Env} {s : State} {m : MethodId} {args : Array Value} {below : List Frame} {meth : Method} {c : Code} {T0 : State} {locs : List Loc} (Z : State) (a0 : Array Value) (ns : Addr) (hG : Glob Z a0 ns) (q0 : Int64) (q1 : Int64) (q2 : Int64) (q3 : Int64) (q4 : Int64) (p5 : Int32) (f : Int32) (g : Int32) (x1 : Addr) (x2 : Addr) (x3 : Addr) (kc : Nat) (ks : Nat) (v16 : Int64) (v18 : Int64) (v20 : Int64) (v22 : Int64) (h0 : Heap) (n0 : Nat) (Z0 : n0 ≤ h0.size) (X00 : Old Z n0 h0) (hkc : kc + 0 ≤ room_1.cells) (hks : ks + 0 ≤ room_1.slots) (X0 : Stand p l e room_1 s m args below meth c T0 locs kc ks) (hx : p.tables.exec = Jvm.exec) (hZ : Z.Warmed39 s.vm) (hby : c.code = code) (hml : c.maxLocals = 36) (hown : s.vm.findClass "com/example/cistern/cistern/CountersAddPinLaw" = some m.cls) (e0 : T0.heap = h0) (N0 : Fr n0 locs) :
    ∃ v24 : Int64, ∃ v26 : Int64, ∃ v28 : Int64, ∃ v30 : Int64, ∃ (T' : State) (L' : List Loc), Stand p l e room_1 s m args below meth c T' L' kc ks ∧ Fr n0 L' ∧ Keep h0 T'.heap [] ∧ v24 = (own_bt f (2 : Int32)).toInt64 + (own_bt g (2 : Int32)).toInt64 ∧ v26 = (own_bt f (3 : Int32)).toInt64 + (own_bt g (3 : Int32)).toInt64 ∧ v28 = (own_bt f (4 : Int32)).toInt64 + (own_bt g (4 : Int32)).toInt64 ∧ v30 = (own_pick f (4 : Int32) q2) + (own_pick g (4 : Int32) q3) ∧ ∀ target, Steps p.tables e below (T'.setTop (mkF m 208 #[.val (.long q0), .second, .val (.long q1), .second, .val (.long q2), .second, .val (.long q3), .second, .val (.long q4), .second, .val (.int p5), .val (.int f), .val (.int g), .val (.ref x1), .val (.ref x2), .val (.ref x3), .val (.long v16), .second, .val (.long v18), .second, .val (.long v20), .second, .val (.long v22), .second, .val (.long v24), .second, .val (.long v26), .second, .val (.long v28), .second, .val (.long v30), .second, .unset, .unset, .unset, .unset] [])) target → Steps p.tables e below (T0.setTop (mkF m 144 #[.val (.long q0), .second, .val (.long q1), .second, .val (.long q2), .second, .val (.long q3), .second, .val (.long q4), .second, .val (.int p5), .val (.int f), .val (.int g), .val (.ref x1), .val (.ref x2), .val (.ref x3), .val (.long v16), .second, .val (.long v18), .second, .val (.long v20), .second, .val (.long v22), .second, .unset, .unset, .unset, .unset, .unset, .unset, .unset, .unset, .unset, .unset, .unset, .unset] [])) target := by
  obtain ⟨hw, O_ns, O_ens, O_scale, O_ratio⟩ := id hG
  have W : ∀ (i : Nat) {d : Jvm.Cond}, tables_1[i]? = some d → d.before a0 Z = true := fun i d h => hw d (List.mem_of_getElem? h)
  -- pc 147: com/example/cistern/cistern/CountersAddPinLaw.bit
  obtain ⟨_, _, ⟨T313, L313, k313, n313⟩, -, X313, ⟨Lc313, hQ313, l313, y313, z313⟩, st313⟩ := Jvm.LawKit.callS X0 hx (y := y21) hown (mvT hZ (W 104 rfl)) (mvT hZ (W 105 rfl)) (mvT hZ (W 11 rfl)) (mvT hZ (W 106 rfl)) (by decide) (backOf (W := 0) (rmbit l Z a0 ns hG [] f (2 : Int32) h0 n0 Z0 X00) hZ (W 106 rfl) (W 11 rfl) (by decide) (by decide)) (g := (mkF m 147 #[.val (.long q0), .second, .val (.long q1), .second, .val (.long q2), .second, .val (.long q3), .second, .val (.long q4), .second, .val (.int p5), .val (.int f), .val (.int g), .val (.ref x1), .val (.ref x2), .val (.ref x3), .val (.long v16), .second, .val (.long v18), .second, .val (.long v20), .second, .val (.long v22), .second, .unset, .unset, .unset, .unset, .unset, .unset, .unset, .unset, .unset, .unset, .unset, .unset] [(.int (2 : Int32)), (.int f)])) rfl (by rw [hml]; rfl) (argsL := [(.int f), (.int (2 : Int32))]) (rest := []) (lenOf pd__II_J rfl) rfl (by show 2 * 0 + _ ≤ _; exact Nat.le_of_eq rfl) (hb hby at_147) (fun _ _ => ⟨rfl, e0, (hkc : kc + 0 ≤ _), (hks : ks + 0 ≤ _)⟩)
  dsimp only [Pt.U, Pt.locs, Pt.cells, Pt.slots] at X313 l313 y313 z313 st313 hQ313
  subst l313 y313 z313
  obtain ⟨r_313, rfl, N313q, eq313, f313_0⟩ := hQ313
  have N313 := Fr.app N0 N313q
  -- pc 153: com/example/cistern/cistern/CountersAddPinLaw.bit
  obtain ⟨_, _, ⟨T314, L314, k314, n314⟩, -, X314, ⟨Lc314, hQ314, l314, y314, z314⟩, st314⟩ := Jvm.LawKit.callS X313 hx (y := y21) hown (mvT hZ (W 104 rfl)) (mvT hZ (W 105 rfl)) (mvT hZ (W 11 rfl)) (mvT hZ (W 106 rfl)) (by decide) (backOf (W := 2) (rmbit l Z a0 ns hG [] g (2 : Int32) h0 n0 Z0 X00) hZ (W 106 rfl) (W 11 rfl) (by decide) (by decide)) (g := (mkF m 153 #[.val (.long q0), .second, .val (.long q1), .second, .val (.long q2), .second, .val (.long q3), .second, .val (.long q4), .second, .val (.int p5), .val (.int f), .val (.int g), .val (.ref x1), .val (.ref x2), .val (.ref x3), .val (.long v16), .second, .val (.long v18), .second, .val (.long v20), .second, .val (.long v22), .second, .unset, .unset, .unset, .unset, .unset, .unset, .unset, .unset, .unset, .unset, .unset, .unset] [(.int (2 : Int32)), (.int g), (.long r_313)])) rfl (by rw [hml]; rfl) (argsL := [(.int g), (.int (2 : Int32))]) (rest := [(.long r_313)]) (lenOf pd__II_J rfl) rfl (by show 2 * 0 + _ ≤ _; exact Nat.le_of_eq rfl) (hb hby at_153) (fun _ _ => ⟨rfl, eq313, (hkc : k313 + 0 ≤ _), (hks : n313 + 0 ≤ _)⟩)
  dsimp only [Pt.U, Pt.locs, Pt.cells, Pt.slots] at X314 l314 y314 z314 st314 hQ314
  subst l314 y314 z314
  obtain ⟨r_314, rfl, N314q, eq314, f314_0⟩ := hQ314
  have N314 := Fr.app N313 N314q
  -- pc 162: com/example/cistern/cistern/CountersAddPinLaw.bit
  obtain ⟨_, _, ⟨T315, L315, k315, n315⟩, -, X315, ⟨Lc315, hQ315, l315, y315, z315⟩, st315⟩ := Jvm.LawKit.callS X314 hx (y := y21) hown (mvT hZ (W 104 rfl)) (mvT hZ (W 105 rfl)) (mvT hZ (W 11 rfl)) (mvT hZ (W 106 rfl)) (by decide) (backOf (W := 0) (rmbit l Z a0 ns hG [] f (3 : Int32) h0 n0 Z0 X00) hZ (W 106 rfl) (W 11 rfl) (by decide) (by decide)) (g := (mkF m 162 #[.val (.long q0), .second, .val (.long q1), .second, .val (.long q2), .second, .val (.long q3), .second, .val (.long q4), .second, .val (.int p5), .val (.int f), .val (.int g), .val (.ref x1), .val (.ref x2), .val (.ref x3), .val (.long v16), .second, .val (.long v18), .second, .val (.long v20), .second, .val (.long v22), .second, .val (.long (r_313 + r_314)), .second, .unset, .unset, .unset, .unset, .unset, .unset, .unset, .unset, .unset, .unset] [(.int (3 : Int32)), (.int f)])) rfl (by rw [hml]; rfl) (argsL := [(.int f), (.int (3 : Int32))]) (rest := []) (lenOf pd__II_J rfl) rfl (by show 2 * 0 + _ ≤ _; exact Nat.le_of_eq rfl) (hb hby at_162) (fun _ _ => ⟨rfl, eq314, (hkc : k314 + 0 ≤ _), (hks : n314 + 0 ≤ _)⟩)
  dsimp only [Pt.U, Pt.locs, Pt.cells, Pt.slots] at X315 l315 y315 z315 st315 hQ315
  subst l315 y315 z315
  obtain ⟨r_315, rfl, N315q, eq315, f315_0⟩ := hQ315
  have N315 := Fr.app N314 N315q
  -- pc 168: com/example/cistern/cistern/CountersAddPinLaw.bit
  obtain ⟨_, _, ⟨T316, L316, k316, n316⟩, -, X316, ⟨Lc316, hQ316, l316, y316, z316⟩, st316⟩ := Jvm.LawKit.callS X315 hx (y := y21) hown (mvT hZ (W 104 rfl)) (mvT hZ (W 105 rfl)) (mvT hZ (W 11 rfl)) (mvT hZ (W 106 rfl)) (by decide) (backOf (W := 2) (rmbit l Z a0 ns hG [] g (3 : Int32) h0 n0 Z0 X00) hZ (W 106 rfl) (W 11 rfl) (by decide) (by decide)) (g := (mkF m 168 #[.val (.long q0), .second, .val (.long q1), .second, .val (.long q2), .second, .val (.long q3), .second, .val (.long q4), .second, .val (.int p5), .val (.int f), .val (.int g), .val (.ref x1), .val (.ref x2), .val (.ref x3), .val (.long v16), .second, .val (.long v18), .second, .val (.long v20), .second, .val (.long v22), .second, .val (.long (r_313 + r_314)), .second, .unset, .unset, .unset, .unset, .unset, .unset, .unset, .unset, .unset, .unset] [(.int (3 : Int32)), (.int g), (.long r_315)])) rfl (by rw [hml]; rfl) (argsL := [(.int g), (.int (3 : Int32))]) (rest := [(.long r_315)]) (lenOf pd__II_J rfl) rfl (by show 2 * 0 + _ ≤ _; exact Nat.le_of_eq rfl) (hb hby at_168) (fun _ _ => ⟨rfl, eq315, (hkc : k315 + 0 ≤ _), (hks : n315 + 0 ≤ _)⟩)
  dsimp only [Pt.U, Pt.locs, Pt.cells, Pt.slots] at X316 l316 y316 z316 st316 hQ316
  subst l316 y316 z316
  obtain ⟨r_316, rfl, N316q, eq316, f316_0⟩ := hQ316
  have N316 := Fr.app N315 N316q
  -- pc 177: com/example/cistern/cistern/CountersAddPinLaw.bit
  obtain ⟨_, _, ⟨T317, L317, k317, n317⟩, -, X317, ⟨Lc317, hQ317, l317, y317, z317⟩, st317⟩ := Jvm.LawKit.callS X316 hx (y := y21) hown (mvT hZ (W 104 rfl)) (mvT hZ (W 105 rfl)) (mvT hZ (W 11 rfl)) (mvT hZ (W 106 rfl)) (by decide) (backOf (W := 0) (rmbit l Z a0 ns hG [] f (4 : Int32) h0 n0 Z0 X00) hZ (W 106 rfl) (W 11 rfl) (by decide) (by decide)) (g := (mkF m 177 #[.val (.long q0), .second, .val (.long q1), .second, .val (.long q2), .second, .val (.long q3), .second, .val (.long q4), .second, .val (.int p5), .val (.int f), .val (.int g), .val (.ref x1), .val (.ref x2), .val (.ref x3), .val (.long v16), .second, .val (.long v18), .second, .val (.long v20), .second, .val (.long v22), .second, .val (.long (r_313 + r_314)), .second, .val (.long (r_315 + r_316)), .second, .unset, .unset, .unset, .unset, .unset, .unset, .unset, .unset] [(.int (4 : Int32)), (.int f)])) rfl (by rw [hml]; rfl) (argsL := [(.int f), (.int (4 : Int32))]) (rest := []) (lenOf pd__II_J rfl) rfl (by show 2 * 0 + _ ≤ _; exact Nat.le_of_eq rfl) (hb hby at_177) (fun _ _ => ⟨rfl, eq316, (hkc : k316 + 0 ≤ _), (hks : n316 + 0 ≤ _)⟩)
  dsimp only [Pt.U, Pt.locs, Pt.cells, Pt.slots] at X317 l317 y317 z317 st317 hQ317
  subst l317 y317 z317
  obtain ⟨r_317, rfl, N317q, eq317, f317_0⟩ := hQ317
  have N317 := Fr.app N316 N317q
  -- pc 183: com/example/cistern/cistern/CountersAddPinLaw.bit
  obtain ⟨_, _, ⟨T318, L318, k318, n318⟩, -, X318, ⟨Lc318, hQ318, l318, y318, z318⟩, st318⟩ := Jvm.LawKit.callS X317 hx (y := y21) hown (mvT hZ (W 104 rfl)) (mvT hZ (W 105 rfl)) (mvT hZ (W 11 rfl)) (mvT hZ (W 106 rfl)) (by decide) (backOf (W := 2) (rmbit l Z a0 ns hG [] g (4 : Int32) h0 n0 Z0 X00) hZ (W 106 rfl) (W 11 rfl) (by decide) (by decide)) (g := (mkF m 183 #[.val (.long q0), .second, .val (.long q1), .second, .val (.long q2), .second, .val (.long q3), .second, .val (.long q4), .second, .val (.int p5), .val (.int f), .val (.int g), .val (.ref x1), .val (.ref x2), .val (.ref x3), .val (.long v16), .second, .val (.long v18), .second, .val (.long v20), .second, .val (.long v22), .second, .val (.long (r_313 + r_314)), .second, .val (.long (r_315 + r_316)), .second, .unset, .unset, .unset, .unset, .unset, .unset, .unset, .unset] [(.int (4 : Int32)), (.int g), (.long r_317)])) rfl (by rw [hml]; rfl) (argsL := [(.int g), (.int (4 : Int32))]) (rest := [(.long r_317)]) (lenOf pd__II_J rfl) rfl (by show 2 * 0 + _ ≤ _; exact Nat.le_of_eq rfl) (hb hby at_183) (fun _ _ => ⟨rfl, eq317, (hkc : k317 + 0 ≤ _), (hks : n317 + 0 ≤ _)⟩)
  dsimp only [Pt.U, Pt.locs, Pt.cells, Pt.slots] at X318 l318 y318 z318 st318 hQ318
  subst l318 y318 z318
  obtain ⟨r_318, rfl, N318q, eq318, f318_0⟩ := hQ318
  have N318 := Fr.app N317 N318q
  -- pc 194: com/example/cistern/cistern/CountersAddPinLaw.pick
  obtain ⟨_, _, ⟨T319, L319, k319, n319⟩, -, X319, ⟨Lc319, hQ319, l319, y319, z319⟩, st319⟩ := Jvm.LawKit.callS X318 hx (y := y22) hown (mvT hZ (W 107 rfl)) (mvT hZ (W 108 rfl)) (mvT hZ (W 11 rfl)) (mvT hZ (W 109 rfl)) (by decide) (backOf (W := 0) (rmpick l Z a0 ns hG [] f (4 : Int32) q2 h0 n0 Z0 X00) hZ (W 109 rfl) (W 11 rfl) (by decide) (by decide)) (g := (mkF m 194 #[.val (.long q0), .second, .val (.long q1), .second, .val (.long q2), .second, .val (.long q3), .second, .val (.long q4), .second, .val (.int p5), .val (.int f), .val (.int g), .val (.ref x1), .val (.ref x2), .val (.ref x3), .val (.long v16), .second, .val (.long v18), .second, .val (.long v20), .second, .val (.long v22), .second, .val (.long (r_313 + r_314)), .second, .val (.long (r_315 + r_316)), .second, .val (.long (r_317 + r_318)), .second, .unset, .unset, .unset, .unset, .unset, .unset] [(.long q2), (.int (4 : Int32)), (.int f)])) rfl (by rw [hml]; rfl) (argsL := [(.int f), (.int (4 : Int32)), (.long q2)]) (rest := []) (lenOf pd__IIJ_J rfl) rfl (by show 2 * 0 + _ ≤ _; exact Nat.le_of_eq rfl) (hb hby at_194) (fun _ _ => ⟨rfl, eq318, (hkc : k318 + 0 ≤ _), (hks : n318 + 0 ≤ _)⟩)
  dsimp only [Pt.U, Pt.locs, Pt.cells, Pt.slots] at X319 l319 y319 z319 st319 hQ319
  subst l319 y319 z319
  obtain ⟨r_319, rfl, N319q, eq319, f319_0⟩ := hQ319
  have N319 := Fr.app N318 N319q
  -- pc 202: com/example/cistern/cistern/CountersAddPinLaw.pick
  obtain ⟨_, _, ⟨T320, L320, k320, n320⟩, -, X320, ⟨Lc320, hQ320, l320, y320, z320⟩, st320⟩ := Jvm.LawKit.callS X319 hx (y := y22) hown (mvT hZ (W 107 rfl)) (mvT hZ (W 108 rfl)) (mvT hZ (W 11 rfl)) (mvT hZ (W 109 rfl)) (by decide) (backOf (W := 2) (rmpick l Z a0 ns hG [] g (4 : Int32) q3 h0 n0 Z0 X00) hZ (W 109 rfl) (W 11 rfl) (by decide) (by decide)) (g := (mkF m 202 #[.val (.long q0), .second, .val (.long q1), .second, .val (.long q2), .second, .val (.long q3), .second, .val (.long q4), .second, .val (.int p5), .val (.int f), .val (.int g), .val (.ref x1), .val (.ref x2), .val (.ref x3), .val (.long v16), .second, .val (.long v18), .second, .val (.long v20), .second, .val (.long v22), .second, .val (.long (r_313 + r_314)), .second, .val (.long (r_315 + r_316)), .second, .val (.long (r_317 + r_318)), .second, .unset, .unset, .unset, .unset, .unset, .unset] [(.long q3), (.int (4 : Int32)), (.int g), (.long r_319)])) rfl (by rw [hml]; rfl) (argsL := [(.int g), (.int (4 : Int32)), (.long q3)]) (rest := [(.long r_319)]) (lenOf pd__IIJ_J rfl) rfl (by show 2 * 0 + _ ≤ _; exact Nat.le_of_eq rfl) (hb hby at_202) (fun _ _ => ⟨rfl, eq319, (hkc : k319 + 0 ≤ _), (hks : n319 + 0 ≤ _)⟩)
  dsimp only [Pt.U, Pt.locs, Pt.cells, Pt.slots] at X320 l320 y320 z320 st320 hQ320
  subst l320 y320 z320
  obtain ⟨r_320, rfl, N320q, eq320, f320_0⟩ := hQ320
  have N320 := Fr.app N319 N320q
  refine ⟨(r_313 + r_314), (r_315 + r_316), (r_317 + r_318), (r_319 + r_320), T320, _, X320, N320, ?_⟩
  rw [eq320]
  refine ⟨(Keep.refl h0 []), by rw [f313_0, f314_0], by rw [f315_0, f316_0], by rw [f317_0, f318_0], by rw [f319_0, f320_0], fun target kt => ?_⟩
  show Steps p.tables e below (T0.setTop (mkF m 144 #[.val (.long q0), .second, .val (.long q1), .second, .val (.long q2), .second, .val (.long q3), .second, .val (.long q4), .second, .val (.int p5), .val (.int f), .val (.int g), .val (.ref x1), .val (.ref x2), .val (.ref x3), .val (.long v16), .second, .val (.long v18), .second, .val (.long v20), .second, .val (.long v22), .second, .unset, .unset, .unset, .unset, .unset, .unset, .unset, .unset, .unset, .unset, .unset, .unset] [])) _
  refine XS.iload X0.here hx rfl (hb hby at_144) rfl ?_
  show Steps p.tables e below (T0.setTop (mkF m 146 #[.val (.long q0), .second, .val (.long q1), .second, .val (.long q2), .second, .val (.long q3), .second, .val (.long q4), .second, .val (.int p5), .val (.int f), .val (.int g), .val (.ref x1), .val (.ref x2), .val (.ref x3), .val (.long v16), .second, .val (.long v18), .second, .val (.long v20), .second, .val (.long v22), .second, .unset, .unset, .unset, .unset, .unset, .unset, .unset, .unset, .unset, .unset, .unset, .unset] [(.int f)])) _
  refine XS.iconst X0.here hx rfl (hb hby at_146) ?_
  show Steps p.tables e below (T0.setTop (mkF m 147 #[.val (.long q0), .second, .val (.long q1), .second, .val (.long q2), .second, .val (.long q3), .second, .val (.long q4), .second, .val (.int p5), .val (.int f), .val (.int g), .val (.ref x1), .val (.ref x2), .val (.ref x3), .val (.long v16), .second, .val (.long v18), .second, .val (.long v20), .second, .val (.long v22), .second, .unset, .unset, .unset, .unset, .unset, .unset, .unset, .unset, .unset, .unset, .unset, .unset] [(.int (2 : Int32)), (.int f)])) _
  refine st313 _ ?_
  show Steps p.tables e below (T313.setTop (mkF m 150 #[.val (.long q0), .second, .val (.long q1), .second, .val (.long q2), .second, .val (.long q3), .second, .val (.long q4), .second, .val (.int p5), .val (.int f), .val (.int g), .val (.ref x1), .val (.ref x2), .val (.ref x3), .val (.long v16), .second, .val (.long v18), .second, .val (.long v20), .second, .val (.long v22), .second, .unset, .unset, .unset, .unset, .unset, .unset, .unset, .unset, .unset, .unset, .unset, .unset] [(.long r_313)])) _
  refine XS.iload X313.here hx rfl (hb hby at_150) rfl ?_
  show Steps p.tables e below (T313.setTop (mkF m 152 #[.val (.long q0), .second, .val (.long q1), .second, .val (.long q2), .second, .val (.long q3), .second, .val (.long q4), .second, .val (.int p5), .val (.int f), .val (.int g), .val (.ref x1), .val (.ref x2), .val (.ref x3), .val (.long v16), .second, .val (.long v18), .second, .val (.long v20), .second, .val (.long v22), .second, .unset, .unset, .unset, .unset, .unset, .unset, .unset, .unset, .unset, .unset, .unset, .unset] [(.int g), (.long r_313)])) _
  refine XS.iconst X313.here hx rfl (hb hby at_152) ?_
  show Steps p.tables e below (T313.setTop (mkF m 153 #[.val (.long q0), .second, .val (.long q1), .second, .val (.long q2), .second, .val (.long q3), .second, .val (.long q4), .second, .val (.int p5), .val (.int f), .val (.int g), .val (.ref x1), .val (.ref x2), .val (.ref x3), .val (.long v16), .second, .val (.long v18), .second, .val (.long v20), .second, .val (.long v22), .second, .unset, .unset, .unset, .unset, .unset, .unset, .unset, .unset, .unset, .unset, .unset, .unset] [(.int (2 : Int32)), (.int g), (.long r_313)])) _
  refine st314 _ ?_
  show Steps p.tables e below (T314.setTop (mkF m 156 #[.val (.long q0), .second, .val (.long q1), .second, .val (.long q2), .second, .val (.long q3), .second, .val (.long q4), .second, .val (.int p5), .val (.int f), .val (.int g), .val (.ref x1), .val (.ref x2), .val (.ref x3), .val (.long v16), .second, .val (.long v18), .second, .val (.long v20), .second, .val (.long v22), .second, .unset, .unset, .unset, .unset, .unset, .unset, .unset, .unset, .unset, .unset, .unset, .unset] [(.long r_314), (.long r_313)])) _
  refine XS.ladd X314.here hx rfl (hb hby at_156) rfl ?_
  show Steps p.tables e below (T314.setTop (mkF m 157 #[.val (.long q0), .second, .val (.long q1), .second, .val (.long q2), .second, .val (.long q3), .second, .val (.long q4), .second, .val (.int p5), .val (.int f), .val (.int g), .val (.ref x1), .val (.ref x2), .val (.ref x3), .val (.long v16), .second, .val (.long v18), .second, .val (.long v20), .second, .val (.long v22), .second, .unset, .unset, .unset, .unset, .unset, .unset, .unset, .unset, .unset, .unset, .unset, .unset] [(.long (r_313 + r_314))])) _
  refine XS.lstore X314.here hx rfl (hb hby at_157) rfl (l' := #[.val (.long q0), .second, .val (.long q1), .second, .val (.long q2), .second, .val (.long q3), .second, .val (.long q4), .second, .val (.int p5), .val (.int f), .val (.int g), .val (.ref x1), .val (.ref x2), .val (.ref x3), .val (.long v16), .second, .val (.long v18), .second, .val (.long v20), .second, .val (.long v22), .second, .val (.long (r_313 + r_314)), .second, .unset, .unset, .unset, .unset, .unset, .unset, .unset, .unset, .unset, .unset]) rfl ?_
  show Steps p.tables e below (T314.setTop (mkF m 159 #[.val (.long q0), .second, .val (.long q1), .second, .val (.long q2), .second, .val (.long q3), .second, .val (.long q4), .second, .val (.int p5), .val (.int f), .val (.int g), .val (.ref x1), .val (.ref x2), .val (.ref x3), .val (.long v16), .second, .val (.long v18), .second, .val (.long v20), .second, .val (.long v22), .second, .val (.long (r_313 + r_314)), .second, .unset, .unset, .unset, .unset, .unset, .unset, .unset, .unset, .unset, .unset] [])) _
  refine XS.iload X314.here hx rfl (hb hby at_159) rfl ?_
  show Steps p.tables e below (T314.setTop (mkF m 161 #[.val (.long q0), .second, .val (.long q1), .second, .val (.long q2), .second, .val (.long q3), .second, .val (.long q4), .second, .val (.int p5), .val (.int f), .val (.int g), .val (.ref x1), .val (.ref x2), .val (.ref x3), .val (.long v16), .second, .val (.long v18), .second, .val (.long v20), .second, .val (.long v22), .second, .val (.long (r_313 + r_314)), .second, .unset, .unset, .unset, .unset, .unset, .unset, .unset, .unset, .unset, .unset] [(.int f)])) _
  refine XS.iconst X314.here hx rfl (hb hby at_161) ?_
  show Steps p.tables e below (T314.setTop (mkF m 162 #[.val (.long q0), .second, .val (.long q1), .second, .val (.long q2), .second, .val (.long q3), .second, .val (.long q4), .second, .val (.int p5), .val (.int f), .val (.int g), .val (.ref x1), .val (.ref x2), .val (.ref x3), .val (.long v16), .second, .val (.long v18), .second, .val (.long v20), .second, .val (.long v22), .second, .val (.long (r_313 + r_314)), .second, .unset, .unset, .unset, .unset, .unset, .unset, .unset, .unset, .unset, .unset] [(.int (3 : Int32)), (.int f)])) _
  refine st315 _ ?_
  show Steps p.tables e below (T315.setTop (mkF m 165 #[.val (.long q0), .second, .val (.long q1), .second, .val (.long q2), .second, .val (.long q3), .second, .val (.long q4), .second, .val (.int p5), .val (.int f), .val (.int g), .val (.ref x1), .val (.ref x2), .val (.ref x3), .val (.long v16), .second, .val (.long v18), .second, .val (.long v20), .second, .val (.long v22), .second, .val (.long (r_313 + r_314)), .second, .unset, .unset, .unset, .unset, .unset, .unset, .unset, .unset, .unset, .unset] [(.long r_315)])) _
  refine XS.iload X315.here hx rfl (hb hby at_165) rfl ?_
  show Steps p.tables e below (T315.setTop (mkF m 167 #[.val (.long q0), .second, .val (.long q1), .second, .val (.long q2), .second, .val (.long q3), .second, .val (.long q4), .second, .val (.int p5), .val (.int f), .val (.int g), .val (.ref x1), .val (.ref x2), .val (.ref x3), .val (.long v16), .second, .val (.long v18), .second, .val (.long v20), .second, .val (.long v22), .second, .val (.long (r_313 + r_314)), .second, .unset, .unset, .unset, .unset, .unset, .unset, .unset, .unset, .unset, .unset] [(.int g), (.long r_315)])) _
  refine XS.iconst X315.here hx rfl (hb hby at_167) ?_
  show Steps p.tables e below (T315.setTop (mkF m 168 #[.val (.long q0), .second, .val (.long q1), .second, .val (.long q2), .second, .val (.long q3), .second, .val (.long q4), .second, .val (.int p5), .val (.int f), .val (.int g), .val (.ref x1), .val (.ref x2), .val (.ref x3), .val (.long v16), .second, .val (.long v18), .second, .val (.long v20), .second, .val (.long v22), .second, .val (.long (r_313 + r_314)), .second, .unset, .unset, .unset, .unset, .unset, .unset, .unset, .unset, .unset, .unset] [(.int (3 : Int32)), (.int g), (.long r_315)])) _
  refine st316 _ ?_
  show Steps p.tables e below (T316.setTop (mkF m 171 #[.val (.long q0), .second, .val (.long q1), .second, .val (.long q2), .second, .val (.long q3), .second, .val (.long q4), .second, .val (.int p5), .val (.int f), .val (.int g), .val (.ref x1), .val (.ref x2), .val (.ref x3), .val (.long v16), .second, .val (.long v18), .second, .val (.long v20), .second, .val (.long v22), .second, .val (.long (r_313 + r_314)), .second, .unset, .unset, .unset, .unset, .unset, .unset, .unset, .unset, .unset, .unset] [(.long r_316), (.long r_315)])) _
  refine XS.ladd X316.here hx rfl (hb hby at_171) rfl ?_
  show Steps p.tables e below (T316.setTop (mkF m 172 #[.val (.long q0), .second, .val (.long q1), .second, .val (.long q2), .second, .val (.long q3), .second, .val (.long q4), .second, .val (.int p5), .val (.int f), .val (.int g), .val (.ref x1), .val (.ref x2), .val (.ref x3), .val (.long v16), .second, .val (.long v18), .second, .val (.long v20), .second, .val (.long v22), .second, .val (.long (r_313 + r_314)), .second, .unset, .unset, .unset, .unset, .unset, .unset, .unset, .unset, .unset, .unset] [(.long (r_315 + r_316))])) _
  refine XS.lstore X316.here hx rfl (hb hby at_172) rfl (l' := #[.val (.long q0), .second, .val (.long q1), .second, .val (.long q2), .second, .val (.long q3), .second, .val (.long q4), .second, .val (.int p5), .val (.int f), .val (.int g), .val (.ref x1), .val (.ref x2), .val (.ref x3), .val (.long v16), .second, .val (.long v18), .second, .val (.long v20), .second, .val (.long v22), .second, .val (.long (r_313 + r_314)), .second, .val (.long (r_315 + r_316)), .second, .unset, .unset, .unset, .unset, .unset, .unset, .unset, .unset]) rfl ?_
  show Steps p.tables e below (T316.setTop (mkF m 174 #[.val (.long q0), .second, .val (.long q1), .second, .val (.long q2), .second, .val (.long q3), .second, .val (.long q4), .second, .val (.int p5), .val (.int f), .val (.int g), .val (.ref x1), .val (.ref x2), .val (.ref x3), .val (.long v16), .second, .val (.long v18), .second, .val (.long v20), .second, .val (.long v22), .second, .val (.long (r_313 + r_314)), .second, .val (.long (r_315 + r_316)), .second, .unset, .unset, .unset, .unset, .unset, .unset, .unset, .unset] [])) _
  refine XS.iload X316.here hx rfl (hb hby at_174) rfl ?_
  show Steps p.tables e below (T316.setTop (mkF m 176 #[.val (.long q0), .second, .val (.long q1), .second, .val (.long q2), .second, .val (.long q3), .second, .val (.long q4), .second, .val (.int p5), .val (.int f), .val (.int g), .val (.ref x1), .val (.ref x2), .val (.ref x3), .val (.long v16), .second, .val (.long v18), .second, .val (.long v20), .second, .val (.long v22), .second, .val (.long (r_313 + r_314)), .second, .val (.long (r_315 + r_316)), .second, .unset, .unset, .unset, .unset, .unset, .unset, .unset, .unset] [(.int f)])) _
  refine XS.iconst X316.here hx rfl (hb hby at_176) ?_
  show Steps p.tables e below (T316.setTop (mkF m 177 #[.val (.long q0), .second, .val (.long q1), .second, .val (.long q2), .second, .val (.long q3), .second, .val (.long q4), .second, .val (.int p5), .val (.int f), .val (.int g), .val (.ref x1), .val (.ref x2), .val (.ref x3), .val (.long v16), .second, .val (.long v18), .second, .val (.long v20), .second, .val (.long v22), .second, .val (.long (r_313 + r_314)), .second, .val (.long (r_315 + r_316)), .second, .unset, .unset, .unset, .unset, .unset, .unset, .unset, .unset] [(.int (4 : Int32)), (.int f)])) _
  refine st317 _ ?_
  show Steps p.tables e below (T317.setTop (mkF m 180 #[.val (.long q0), .second, .val (.long q1), .second, .val (.long q2), .second, .val (.long q3), .second, .val (.long q4), .second, .val (.int p5), .val (.int f), .val (.int g), .val (.ref x1), .val (.ref x2), .val (.ref x3), .val (.long v16), .second, .val (.long v18), .second, .val (.long v20), .second, .val (.long v22), .second, .val (.long (r_313 + r_314)), .second, .val (.long (r_315 + r_316)), .second, .unset, .unset, .unset, .unset, .unset, .unset, .unset, .unset] [(.long r_317)])) _
  refine XS.iload X317.here hx rfl (hb hby at_180) rfl ?_
  show Steps p.tables e below (T317.setTop (mkF m 182 #[.val (.long q0), .second, .val (.long q1), .second, .val (.long q2), .second, .val (.long q3), .second, .val (.long q4), .second, .val (.int p5), .val (.int f), .val (.int g), .val (.ref x1), .val (.ref x2), .val (.ref x3), .val (.long v16), .second, .val (.long v18), .second, .val (.long v20), .second, .val (.long v22), .second, .val (.long (r_313 + r_314)), .second, .val (.long (r_315 + r_316)), .second, .unset, .unset, .unset, .unset, .unset, .unset, .unset, .unset] [(.int g), (.long r_317)])) _
  refine XS.iconst X317.here hx rfl (hb hby at_182) ?_
  show Steps p.tables e below (T317.setTop (mkF m 183 #[.val (.long q0), .second, .val (.long q1), .second, .val (.long q2), .second, .val (.long q3), .second, .val (.long q4), .second, .val (.int p5), .val (.int f), .val (.int g), .val (.ref x1), .val (.ref x2), .val (.ref x3), .val (.long v16), .second, .val (.long v18), .second, .val (.long v20), .second, .val (.long v22), .second, .val (.long (r_313 + r_314)), .second, .val (.long (r_315 + r_316)), .second, .unset, .unset, .unset, .unset, .unset, .unset, .unset, .unset] [(.int (4 : Int32)), (.int g), (.long r_317)])) _
  refine st318 _ ?_
  show Steps p.tables e below (T318.setTop (mkF m 186 #[.val (.long q0), .second, .val (.long q1), .second, .val (.long q2), .second, .val (.long q3), .second, .val (.long q4), .second, .val (.int p5), .val (.int f), .val (.int g), .val (.ref x1), .val (.ref x2), .val (.ref x3), .val (.long v16), .second, .val (.long v18), .second, .val (.long v20), .second, .val (.long v22), .second, .val (.long (r_313 + r_314)), .second, .val (.long (r_315 + r_316)), .second, .unset, .unset, .unset, .unset, .unset, .unset, .unset, .unset] [(.long r_318), (.long r_317)])) _
  refine XS.ladd X318.here hx rfl (hb hby at_186) rfl ?_
  show Steps p.tables e below (T318.setTop (mkF m 187 #[.val (.long q0), .second, .val (.long q1), .second, .val (.long q2), .second, .val (.long q3), .second, .val (.long q4), .second, .val (.int p5), .val (.int f), .val (.int g), .val (.ref x1), .val (.ref x2), .val (.ref x3), .val (.long v16), .second, .val (.long v18), .second, .val (.long v20), .second, .val (.long v22), .second, .val (.long (r_313 + r_314)), .second, .val (.long (r_315 + r_316)), .second, .unset, .unset, .unset, .unset, .unset, .unset, .unset, .unset] [(.long (r_317 + r_318))])) _
  refine XS.lstore X318.here hx rfl (hb hby at_187) rfl (l' := #[.val (.long q0), .second, .val (.long q1), .second, .val (.long q2), .second, .val (.long q3), .second, .val (.long q4), .second, .val (.int p5), .val (.int f), .val (.int g), .val (.ref x1), .val (.ref x2), .val (.ref x3), .val (.long v16), .second, .val (.long v18), .second, .val (.long v20), .second, .val (.long v22), .second, .val (.long (r_313 + r_314)), .second, .val (.long (r_315 + r_316)), .second, .val (.long (r_317 + r_318)), .second, .unset, .unset, .unset, .unset, .unset, .unset]) rfl ?_
  show Steps p.tables e below (T318.setTop (mkF m 189 #[.val (.long q0), .second, .val (.long q1), .second, .val (.long q2), .second, .val (.long q3), .second, .val (.long q4), .second, .val (.int p5), .val (.int f), .val (.int g), .val (.ref x1), .val (.ref x2), .val (.ref x3), .val (.long v16), .second, .val (.long v18), .second, .val (.long v20), .second, .val (.long v22), .second, .val (.long (r_313 + r_314)), .second, .val (.long (r_315 + r_316)), .second, .val (.long (r_317 + r_318)), .second, .unset, .unset, .unset, .unset, .unset, .unset] [])) _
  refine XS.iload X318.here hx rfl (hb hby at_189) rfl ?_
  show Steps p.tables e below (T318.setTop (mkF m 191 #[.val (.long q0), .second, .val (.long q1), .second, .val (.long q2), .second, .val (.long q3), .second, .val (.long q4), .second, .val (.int p5), .val (.int f), .val (.int g), .val (.ref x1), .val (.ref x2), .val (.ref x3), .val (.long v16), .second, .val (.long v18), .second, .val (.long v20), .second, .val (.long v22), .second, .val (.long (r_313 + r_314)), .second, .val (.long (r_315 + r_316)), .second, .val (.long (r_317 + r_318)), .second, .unset, .unset, .unset, .unset, .unset, .unset] [(.int f)])) _
  refine XS.iconst X318.here hx rfl (hb hby at_191) ?_
  show Steps p.tables e below (T318.setTop (mkF m 192 #[.val (.long q0), .second, .val (.long q1), .second, .val (.long q2), .second, .val (.long q3), .second, .val (.long q4), .second, .val (.int p5), .val (.int f), .val (.int g), .val (.ref x1), .val (.ref x2), .val (.ref x3), .val (.long v16), .second, .val (.long v18), .second, .val (.long v20), .second, .val (.long v22), .second, .val (.long (r_313 + r_314)), .second, .val (.long (r_315 + r_316)), .second, .val (.long (r_317 + r_318)), .second, .unset, .unset, .unset, .unset, .unset, .unset] [(.int (4 : Int32)), (.int f)])) _
  refine XS.lload X318.here hx rfl (hb hby at_192) rfl ?_
  show Steps p.tables e below (T318.setTop (mkF m 194 #[.val (.long q0), .second, .val (.long q1), .second, .val (.long q2), .second, .val (.long q3), .second, .val (.long q4), .second, .val (.int p5), .val (.int f), .val (.int g), .val (.ref x1), .val (.ref x2), .val (.ref x3), .val (.long v16), .second, .val (.long v18), .second, .val (.long v20), .second, .val (.long v22), .second, .val (.long (r_313 + r_314)), .second, .val (.long (r_315 + r_316)), .second, .val (.long (r_317 + r_318)), .second, .unset, .unset, .unset, .unset, .unset, .unset] [(.long q2), (.int (4 : Int32)), (.int f)])) _
  refine st319 _ ?_
  show Steps p.tables e below (T319.setTop (mkF m 197 #[.val (.long q0), .second, .val (.long q1), .second, .val (.long q2), .second, .val (.long q3), .second, .val (.long q4), .second, .val (.int p5), .val (.int f), .val (.int g), .val (.ref x1), .val (.ref x2), .val (.ref x3), .val (.long v16), .second, .val (.long v18), .second, .val (.long v20), .second, .val (.long v22), .second, .val (.long (r_313 + r_314)), .second, .val (.long (r_315 + r_316)), .second, .val (.long (r_317 + r_318)), .second, .unset, .unset, .unset, .unset, .unset, .unset] [(.long r_319)])) _
  refine XS.iload X319.here hx rfl (hb hby at_197) rfl ?_
  show Steps p.tables e below (T319.setTop (mkF m 199 #[.val (.long q0), .second, .val (.long q1), .second, .val (.long q2), .second, .val (.long q3), .second, .val (.long q4), .second, .val (.int p5), .val (.int f), .val (.int g), .val (.ref x1), .val (.ref x2), .val (.ref x3), .val (.long v16), .second, .val (.long v18), .second, .val (.long v20), .second, .val (.long v22), .second, .val (.long (r_313 + r_314)), .second, .val (.long (r_315 + r_316)), .second, .val (.long (r_317 + r_318)), .second, .unset, .unset, .unset, .unset, .unset, .unset] [(.int g), (.long r_319)])) _
  refine XS.iconst X319.here hx rfl (hb hby at_199) ?_
  show Steps p.tables e below (T319.setTop (mkF m 200 #[.val (.long q0), .second, .val (.long q1), .second, .val (.long q2), .second, .val (.long q3), .second, .val (.long q4), .second, .val (.int p5), .val (.int f), .val (.int g), .val (.ref x1), .val (.ref x2), .val (.ref x3), .val (.long v16), .second, .val (.long v18), .second, .val (.long v20), .second, .val (.long v22), .second, .val (.long (r_313 + r_314)), .second, .val (.long (r_315 + r_316)), .second, .val (.long (r_317 + r_318)), .second, .unset, .unset, .unset, .unset, .unset, .unset] [(.int (4 : Int32)), (.int g), (.long r_319)])) _
  refine XS.lload X319.here hx rfl (hb hby at_200) rfl ?_
  show Steps p.tables e below (T319.setTop (mkF m 202 #[.val (.long q0), .second, .val (.long q1), .second, .val (.long q2), .second, .val (.long q3), .second, .val (.long q4), .second, .val (.int p5), .val (.int f), .val (.int g), .val (.ref x1), .val (.ref x2), .val (.ref x3), .val (.long v16), .second, .val (.long v18), .second, .val (.long v20), .second, .val (.long v22), .second, .val (.long (r_313 + r_314)), .second, .val (.long (r_315 + r_316)), .second, .val (.long (r_317 + r_318)), .second, .unset, .unset, .unset, .unset, .unset, .unset] [(.long q3), (.int (4 : Int32)), (.int g), (.long r_319)])) _
  refine st320 _ ?_
  show Steps p.tables e below (T320.setTop (mkF m 205 #[.val (.long q0), .second, .val (.long q1), .second, .val (.long q2), .second, .val (.long q3), .second, .val (.long q4), .second, .val (.int p5), .val (.int f), .val (.int g), .val (.ref x1), .val (.ref x2), .val (.ref x3), .val (.long v16), .second, .val (.long v18), .second, .val (.long v20), .second, .val (.long v22), .second, .val (.long (r_313 + r_314)), .second, .val (.long (r_315 + r_316)), .second, .val (.long (r_317 + r_318)), .second, .unset, .unset, .unset, .unset, .unset, .unset] [(.long r_320), (.long r_319)])) _
  refine XS.ladd X320.here hx rfl (hb hby at_205) rfl ?_
  show Steps p.tables e below (T320.setTop (mkF m 206 #[.val (.long q0), .second, .val (.long q1), .second, .val (.long q2), .second, .val (.long q3), .second, .val (.long q4), .second, .val (.int p5), .val (.int f), .val (.int g), .val (.ref x1), .val (.ref x2), .val (.ref x3), .val (.long v16), .second, .val (.long v18), .second, .val (.long v20), .second, .val (.long v22), .second, .val (.long (r_313 + r_314)), .second, .val (.long (r_315 + r_316)), .second, .val (.long (r_317 + r_318)), .second, .unset, .unset, .unset, .unset, .unset, .unset] [(.long (r_319 + r_320))])) _
  refine XS.lstore X320.here hx rfl (hb hby at_206) rfl (l' := #[.val (.long q0), .second, .val (.long q1), .second, .val (.long q2), .second, .val (.long q3), .second, .val (.long q4), .second, .val (.int p5), .val (.int f), .val (.int g), .val (.ref x1), .val (.ref x2), .val (.ref x3), .val (.long v16), .second, .val (.long v18), .second, .val (.long v20), .second, .val (.long v22), .second, .val (.long (r_313 + r_314)), .second, .val (.long (r_315 + r_316)), .second, .val (.long (r_317 + r_318)), .second, .val (.long (r_319 + r_320)), .second, .unset, .unset, .unset, .unset]) rfl ?_
  exact kt
set_option maxRecDepth 65536 in
set_option maxHeartbeats 40000000 in
theorem sglc {p : Program} {l : Launch} {e : Env} {s : State} {m : MethodId} {args : Array Value} {below : List Frame} {meth : Method} {c : Code} {T0 : State} {locs : List Loc} (Z : State) (a0 : Array Value) (ns : Addr) (hG : Glob Z a0 ns) (q0 : Int64) (q1 : Int64) (q2 : Int64) (q3 : Int64) (q4 : Int64) (p5 : Int32) (f : Int32) (g : Int32) (x1 : Addr) (x2 : Addr) (x3 : Addr) (kc : Nat) (ks : Nat) (v16 : Int64) (v18 : Int64) (v20 : Int64) (v22 : Int64) (v24 : Int64) (v26 : Int64) (v28 : Int64) (v30 : Int64) (h0 : Heap) (n0 : Nat) (Z0 : n0 ≤ h0.size) (X00 : Old Z n0 h0) (hkc : kc + 0 ≤ room_1.cells) (hks : ks + 0 ≤ room_1.slots) (X0 : Stand p l e room_1 s m args below meth c T0 locs kc ks) (hx : p.tables.exec = Jvm.exec) (hZ : Z.Warmed39 s.vm) (hby : c.code = code) (hml : c.maxLocals = 36) (hown : s.vm.findClass "com/example/cistern/cistern/CountersAddPinLaw" = some m.cls) (e0 : T0.heap = h0) (N0 : Fr n0 locs) :
    ∃ v32 : Int64, ∃ v34 : Int64, ∃ (T' : State) (L' : List Loc), Stand p l e room_1 s m args below meth c T' L' kc ks ∧ Fr n0 L' ∧ Keep h0 T'.heap [] ∧ v32 = (v28 + (own_bt f (5 : Int32)).toInt64) + (own_bt g (5 : Int32)).toInt64 ∧ v34 = (v30 + (own_pick f (5 : Int32) q3)) + (own_pick g (5 : Int32) q4) ∧ ∀ target, Steps p.tables e below (T'.setTop (mkF m 248 #[.val (.long q0), .second, .val (.long q1), .second, .val (.long q2), .second, .val (.long q3), .second, .val (.long q4), .second, .val (.int p5), .val (.int f), .val (.int g), .val (.ref x1), .val (.ref x2), .val (.ref x3), .val (.long v16), .second, .val (.long v18), .second, .val (.long v20), .second, .val (.long v22), .second, .val (.long v24), .second, .val (.long v26), .second, .val (.long v28), .second, .val (.long v30), .second, .val (.long v32), .second, .val (.long v34), .second] [])) target → Steps p.tables e below (T0.setTop (mkF m 208 #[.val (.long q0), .second, .val (.long q1), .second, .val (.long q2), .second, .val (.long q3), .second, .val (.long q4), .second, .val (.int p5), .val (.int f), .val (.int g), .val (.ref x1), .val (.ref x2), .val (.ref x3), .val (.long v16), .second, .val (.long v18), .second, .val (.long v20), .second, .val (.long v22), .second, .val (.long v24), .second, .val (.long v26), .second, .val (.long v28), .second, .val (.long v30), .second, .unset, .unset, .unset, .unset] [])) target := by
  obtain ⟨hw, O_ns, O_ens, O_scale, O_ratio⟩ := id hG
  have W : ∀ (i : Nat) {d : Jvm.Cond}, tables_1[i]? = some d → d.before a0 Z = true := fun i d h => hw d (List.mem_of_getElem? h)
  -- pc 213: com/example/cistern/cistern/CountersAddPinLaw.bit
  obtain ⟨_, _, ⟨T321, L321, k321, n321⟩, -, X321, ⟨Lc321, hQ321, l321, y321, z321⟩, st321⟩ := Jvm.LawKit.callS X0 hx (y := y21) hown (mvT hZ (W 104 rfl)) (mvT hZ (W 105 rfl)) (mvT hZ (W 11 rfl)) (mvT hZ (W 106 rfl)) (by decide) (backOf (W := 2) (rmbit l Z a0 ns hG [] f (5 : Int32) h0 n0 Z0 X00) hZ (W 106 rfl) (W 11 rfl) (by decide) (by decide)) (g := (mkF m 213 #[.val (.long q0), .second, .val (.long q1), .second, .val (.long q2), .second, .val (.long q3), .second, .val (.long q4), .second, .val (.int p5), .val (.int f), .val (.int g), .val (.ref x1), .val (.ref x2), .val (.ref x3), .val (.long v16), .second, .val (.long v18), .second, .val (.long v20), .second, .val (.long v22), .second, .val (.long v24), .second, .val (.long v26), .second, .val (.long v28), .second, .val (.long v30), .second, .unset, .unset, .unset, .unset] [(.int (5 : Int32)), (.int f), (.long v28)])) rfl (by rw [hml]; rfl) (argsL := [(.int f), (.int (5 : Int32))]) (rest := [(.long v28)]) (lenOf pd__II_J rfl) rfl (by show 2 * 0 + _ ≤ _; exact Nat.le_of_eq rfl) (hb hby at_213) (fun _ _ => ⟨rfl, e0, (hkc : kc + 0 ≤ _), (hks : ks + 0 ≤ _)⟩)
  dsimp only [Pt.U, Pt.locs, Pt.cells, Pt.slots] at X321 l321 y321 z321 st321 hQ321
  subst l321 y321 z321
  obtain ⟨r_321, rfl, N321q, eq321, f321_0⟩ := hQ321
  have N321 := Fr.app N0 N321q
  -- pc 220: com/example/cistern/cistern/CountersAddPinLaw.bit
  obtain ⟨_, _, ⟨T322, L322, k322, n322⟩, -, X322, ⟨Lc322, hQ322, l322, y322, z322⟩, st322⟩ := Jvm.LawKit.callS X321 hx (y := y21) hown (mvT hZ (W 104 rfl)) (mvT hZ (W 105 rfl)) (mvT hZ (W 11 rfl)) (mvT hZ (W 106 rfl)) (by decide) (backOf (W := 2) (rmbit l Z a0 ns hG [] g (5 : Int32) h0 n0 Z0 X00) hZ (W 106 rfl) (W 11 rfl) (by decide) (by decide)) (g := (mkF m 220 #[.val (.long q0), .second, .val (.long q1), .second, .val (.long q2), .second, .val (.long q3), .second, .val (.long q4), .second, .val (.int p5), .val (.int f), .val (.int g), .val (.ref x1), .val (.ref x2), .val (.ref x3), .val (.long v16), .second, .val (.long v18), .second, .val (.long v20), .second, .val (.long v22), .second, .val (.long v24), .second, .val (.long v26), .second, .val (.long v28), .second, .val (.long v30), .second, .unset, .unset, .unset, .unset] [(.int (5 : Int32)), (.int g), (.long (v28 + r_321))])) rfl (by rw [hml]; rfl) (argsL := [(.int g), (.int (5 : Int32))]) (rest := [(.long (v28 + r_321))]) (lenOf pd__II_J rfl) rfl (by show 2 * 0 + _ ≤ _; exact Nat.le_of_eq rfl) (hb hby at_220) (fun _ _ => ⟨rfl, eq321, (hkc : k321 + 0 ≤ _), (hks : n321 + 0 ≤ _)⟩)
  dsimp only [Pt.U, Pt.locs, Pt.cells, Pt.slots] at X322 l322 y322 z322 st322 hQ322
  subst l322 y322 z322
  obtain ⟨r_322, rfl, N322q, eq322, f322_0⟩ := hQ322
  have N322 := Fr.app N321 N322q
  -- pc 233: com/example/cistern/cistern/CountersAddPinLaw.pick
  obtain ⟨_, _, ⟨T323, L323, k323, n323⟩, -, X323, ⟨Lc323, hQ323, l323, y323, z323⟩, st323⟩ := Jvm.LawKit.callS X322 hx (y := y22) hown (mvT hZ (W 107 rfl)) (mvT hZ (W 108 rfl)) (mvT hZ (W 11 rfl)) (mvT hZ (W 109 rfl)) (by decide) (backOf (W := 2) (rmpick l Z a0 ns hG [] f (5 : Int32) q3 h0 n0 Z0 X00) hZ (W 109 rfl) (W 11 rfl) (by decide) (by decide)) (g := (mkF m 233 #[.val (.long q0), .second, .val (.long q1), .second, .val (.long q2), .second, .val (.long q3), .second, .val (.long q4), .second, .val (.int p5), .val (.int f), .val (.int g), .val (.ref x1), .val (.ref x2), .val (.ref x3), .val (.long v16), .second, .val (.long v18), .second, .val (.long v20), .second, .val (.long v22), .second, .val (.long v24), .second, .val (.long v26), .second, .val (.long v28), .second, .val (.long v30), .second, .val (.long ((v28 + r_321) + r_322)), .second, .unset, .unset] [(.long q3), (.int (5 : Int32)), (.int f), (.long v30)])) rfl (by rw [hml]; rfl) (argsL := [(.int f), (.int (5 : Int32)), (.long q3)]) (rest := [(.long v30)]) (lenOf pd__IIJ_J rfl) rfl (by show 2 * 0 + _ ≤ _; exact Nat.le_of_eq rfl) (hb hby at_233) (fun _ _ => ⟨rfl, eq322, (hkc : k322 + 0 ≤ _), (hks : n322 + 0 ≤ _)⟩)
  dsimp only [Pt.U, Pt.locs, Pt.cells, Pt.slots] at X323 l323 y323 z323 st323 hQ323
  subst l323 y323 z323
  obtain ⟨r_323, rfl, N323q, eq323, f323_0⟩ := hQ323
  have N323 := Fr.app N322 N323q
  -- pc 242: com/example/cistern/cistern/CountersAddPinLaw.pick
  obtain ⟨_, _, ⟨T324, L324, k324, n324⟩, -, X324, ⟨Lc324, hQ324, l324, y324, z324⟩, st324⟩ := Jvm.LawKit.callS X323 hx (y := y22) hown (mvT hZ (W 107 rfl)) (mvT hZ (W 108 rfl)) (mvT hZ (W 11 rfl)) (mvT hZ (W 109 rfl)) (by decide) (backOf (W := 2) (rmpick l Z a0 ns hG [] g (5 : Int32) q4 h0 n0 Z0 X00) hZ (W 109 rfl) (W 11 rfl) (by decide) (by decide)) (g := (mkF m 242 #[.val (.long q0), .second, .val (.long q1), .second, .val (.long q2), .second, .val (.long q3), .second, .val (.long q4), .second, .val (.int p5), .val (.int f), .val (.int g), .val (.ref x1), .val (.ref x2), .val (.ref x3), .val (.long v16), .second, .val (.long v18), .second, .val (.long v20), .second, .val (.long v22), .second, .val (.long v24), .second, .val (.long v26), .second, .val (.long v28), .second, .val (.long v30), .second, .val (.long ((v28 + r_321) + r_322)), .second, .unset, .unset] [(.long q4), (.int (5 : Int32)), (.int g), (.long (v30 + r_323))])) rfl (by rw [hml]; rfl) (argsL := [(.int g), (.int (5 : Int32)), (.long q4)]) (rest := [(.long (v30 + r_323))]) (lenOf pd__IIJ_J rfl) rfl (by show 2 * 0 + _ ≤ _; exact Nat.le_of_eq rfl) (hb hby at_242) (fun _ _ => ⟨rfl, eq323, (hkc : k323 + 0 ≤ _), (hks : n323 + 0 ≤ _)⟩)
  dsimp only [Pt.U, Pt.locs, Pt.cells, Pt.slots] at X324 l324 y324 z324 st324 hQ324
  subst l324 y324 z324
  obtain ⟨r_324, rfl, N324q, eq324, f324_0⟩ := hQ324
  have N324 := Fr.app N323 N324q
  refine ⟨((v28 + r_321) + r_322), ((v30 + r_323) + r_324), T324, _, X324, N324, ?_⟩
  rw [eq324]
  refine ⟨(Keep.refl h0 []), by rw [f321_0, f322_0], by rw [f323_0, f324_0], fun target kt => ?_⟩
  show Steps p.tables e below (T0.setTop (mkF m 208 #[.val (.long q0), .second, .val (.long q1), .second, .val (.long q2), .second, .val (.long q3), .second, .val (.long q4), .second, .val (.int p5), .val (.int f), .val (.int g), .val (.ref x1), .val (.ref x2), .val (.ref x3), .val (.long v16), .second, .val (.long v18), .second, .val (.long v20), .second, .val (.long v22), .second, .val (.long v24), .second, .val (.long v26), .second, .val (.long v28), .second, .val (.long v30), .second, .unset, .unset, .unset, .unset] [])) _
  refine XS.lload X0.here hx rfl (hb hby at_208) rfl ?_
  show Steps p.tables e below (T0.setTop (mkF m 210 #[.val (.long q0), .second, .val (.long q1), .second, .val (.long q2), .second, .val (.long q3), .second, .val (.long q4), .second, .val (.int p5), .val (.int f), .val (.int g), .val (.ref x1), .val (.ref x2), .val (.ref x3), .val (.long v16), .second, .val (.long v18), .second, .val (.long v20), .second, .val (.long v22), .second, .val (.long v24), .second, .val (.long v26), .second, .val (.long v28), .second, .val (.long v30), .second, .unset, .unset, .unset, .unset] [(.long v28)])) _
  refine XS.iload X0.here hx rfl (hb hby at_210) rfl ?_
  show Steps p.tables e below (T0.setTop (mkF m 212 #[.val (.long q0), .second, .val (.long q1), .second, .val (.long q2), .second, .val (.long q3), .second, .val (.long q4), .second, .val (.int p5), .val (.int f), .val (.int g), .val (.ref x1), .val (.ref x2), .val (.ref x3), .val (.long v16), .second, .val (.long v18), .second, .val (.long v20), .second, .val (.long v22), .second, .val (.long v24), .second, .val (.long v26), .second, .val (.long v28), .second, .val (.long v30), .second, .unset, .unset, .unset, .unset] [(.int f), (.long v28)])) _
  refine XS.iconst X0.here hx rfl (hb hby at_212) ?_
  show Steps p.tables e below (T0.setTop (mkF m 213 #[.val (.long q0), .second, .val (.long q1), .second, .val (.long q2), .second, .val (.long q3), .second, .val (.long q4), .second, .val (.int p5), .val (.int f), .val (.int g), .val (.ref x1), .val (.ref x2), .val (.ref x3), .val (.long v16), .second, .val (.long v18), .second, .val (.long v20), .second, .val (.long v22), .second, .val (.long v24), .second, .val (.long v26), .second, .val (.long v28), .second, .val (.long v30), .second, .unset, .unset, .unset, .unset] [(.int (5 : Int32)), (.int f), (.long v28)])) _
  refine st321 _ ?_
  show Steps p.tables e below (T321.setTop (mkF m 216 #[.val (.long q0), .second, .val (.long q1), .second, .val (.long q2), .second, .val (.long q3), .second, .val (.long q4), .second, .val (.int p5), .val (.int f), .val (.int g), .val (.ref x1), .val (.ref x2), .val (.ref x3), .val (.long v16), .second, .val (.long v18), .second, .val (.long v20), .second, .val (.long v22), .second, .val (.long v24), .second, .val (.long v26), .second, .val (.long v28), .second, .val (.long v30), .second, .unset, .unset, .unset, .unset] [(.long r_321), (.long v28)])) _
  refine XS.ladd X321.here hx rfl (hb hby at_216) rfl ?_
  show Steps p.tables e below (T321.setTop (mkF m 217 #[.val (.long q0), .second, .val (.long q1), .second, .val (.long q2), .second, .val (.long q3), .second, .val (.long q4), .second, .val (.int p5), .val (.int f), .val (.int g), .val (.ref x1), .val (.ref x2), .val (.ref x3), .val (.long v16), .second, .val (.long v18), .second, .val (.long v20), .second, .val (.long v22), .second, .val (.long v24), .second, .val (.long v26), .second, .val (.long v28), .second, .val (.long v30), .second, .unset, .unset, .unset, .unset] [(.long (v28 + r_321))])) _
  refine XS.iload X321.here hx rfl (hb hby at_217) rfl ?_
  show Steps p.tables e below (T321.setTop (mkF m 219 #[.val (.long q0), .second, .val (.long q1), .second, .val (.long q2), .second, .val (.long q3), .second, .val (.long q4), .second, .val (.int p5), .val (.int f), .val (.int g), .val (.ref x1), .val (.ref x2), .val (.ref x3), .val (.long v16), .second, .val (.long v18), .second, .val (.long v20), .second, .val (.long v22), .second, .val (.long v24), .second, .val (.long v26), .second, .val (.long v28), .second, .val (.long v30), .second, .unset, .unset, .unset, .unset] [(.int g), (.long (v28 + r_321))])) _
  refine XS.iconst X321.here hx rfl (hb hby at_219) ?_
  show Steps p.tables e below (T321.setTop (mkF m 220 #[.val (.long q0), .second, .val (.long q1), .second, .val (.long q2), .second, .val (.long q3), .second, .val (.long q4), .second, .val (.int p5), .val (.int f), .val (.int g), .val (.ref x1), .val (.ref x2), .val (.ref x3), .val (.long v16), .second, .val (.long v18), .second, .val (.long v20), .second, .val (.long v22), .second, .val (.long v24), .second, .val (.long v26), .second, .val (.long v28), .second, .val (.long v30), .second, .unset, .unset, .unset, .unset] [(.int (5 : Int32)), (.int g), (.long (v28 + r_321))])) _
  refine st322 _ ?_
  show Steps p.tables e below (T322.setTop (mkF m 223 #[.val (.long q0), .second, .val (.long q1), .second, .val (.long q2), .second, .val (.long q3), .second, .val (.long q4), .second, .val (.int p5), .val (.int f), .val (.int g), .val (.ref x1), .val (.ref x2), .val (.ref x3), .val (.long v16), .second, .val (.long v18), .second, .val (.long v20), .second, .val (.long v22), .second, .val (.long v24), .second, .val (.long v26), .second, .val (.long v28), .second, .val (.long v30), .second, .unset, .unset, .unset, .unset] [(.long r_322), (.long (v28 + r_321))])) _
  refine XS.ladd X322.here hx rfl (hb hby at_223) rfl ?_
  show Steps p.tables e below (T322.setTop (mkF m 224 #[.val (.long q0), .second, .val (.long q1), .second, .val (.long q2), .second, .val (.long q3), .second, .val (.long q4), .second, .val (.int p5), .val (.int f), .val (.int g), .val (.ref x1), .val (.ref x2), .val (.ref x3), .val (.long v16), .second, .val (.long v18), .second, .val (.long v20), .second, .val (.long v22), .second, .val (.long v24), .second, .val (.long v26), .second, .val (.long v28), .second, .val (.long v30), .second, .unset, .unset, .unset, .unset] [(.long ((v28 + r_321) + r_322))])) _
  refine XS.lstore X322.here hx rfl (hb hby at_224) rfl (l' := #[.val (.long q0), .second, .val (.long q1), .second, .val (.long q2), .second, .val (.long q3), .second, .val (.long q4), .second, .val (.int p5), .val (.int f), .val (.int g), .val (.ref x1), .val (.ref x2), .val (.ref x3), .val (.long v16), .second, .val (.long v18), .second, .val (.long v20), .second, .val (.long v22), .second, .val (.long v24), .second, .val (.long v26), .second, .val (.long v28), .second, .val (.long v30), .second, .val (.long ((v28 + r_321) + r_322)), .second, .unset, .unset]) rfl ?_
  show Steps p.tables e below (T322.setTop (mkF m 226 #[.val (.long q0), .second, .val (.long q1), .second, .val (.long q2), .second, .val (.long q3), .second, .val (.long q4), .second, .val (.int p5), .val (.int f), .val (.int g), .val (.ref x1), .val (.ref x2), .val (.ref x3), .val (.long v16), .second, .val (.long v18), .second, .val (.long v20), .second, .val (.long v22), .second, .val (.long v24), .second, .val (.long v26), .second, .val (.long v28), .second, .val (.long v30), .second, .val (.long ((v28 + r_321) + r_322)), .second, .unset, .unset] [])) _
  refine XS.lload X322.here hx rfl (hb hby at_226) rfl ?_
  show Steps p.tables e below (T322.setTop (mkF m 228 #[.val (.long q0), .second, .val (.long q1), .second, .val (.long q2), .second, .val (.long q3), .second, .val (.long q4), .second, .val (.int p5), .val (.int f), .val (.int g), .val (.ref x1), .val (.ref x2), .val (.ref x3), .val (.long v16), .second, .val (.long v18), .second, .val (.long v20), .second, .val (.long v22), .second, .val (.long v24), .second, .val (.long v26), .second, .val (.long v28), .second, .val (.long v30), .second, .val (.long ((v28 + r_321) + r_322)), .second, .unset, .unset] [(.long v30)])) _
  refine XS.iload X322.here hx rfl (hb hby at_228) rfl ?_
  show Steps p.tables e below (T322.setTop (mkF m 230 #[.val (.long q0), .second, .val (.long q1), .second, .val (.long q2), .second, .val (.long q3), .second, .val (.long q4), .second, .val (.int p5), .val (.int f), .val (.int g), .val (.ref x1), .val (.ref x2), .val (.ref x3), .val (.long v16), .second, .val (.long v18), .second, .val (.long v20), .second, .val (.long v22), .second, .val (.long v24), .second, .val (.long v26), .second, .val (.long v28), .second, .val (.long v30), .second, .val (.long ((v28 + r_321) + r_322)), .second, .unset, .unset] [(.int f), (.long v30)])) _
  refine XS.iconst X322.here hx rfl (hb hby at_230) ?_
  show Steps p.tables e below (T322.setTop (mkF m 231 #[.val (.long q0), .second, .val (.long q1), .second, .val (.long q2), .second, .val (.long q3), .second, .val (.long q4), .second, .val (.int p5), .val (.int f), .val (.int g), .val (.ref x1), .val (.ref x2), .val (.ref x3), .val (.long v16), .second, .val (.long v18), .second, .val (.long v20), .second, .val (.long v22), .second, .val (.long v24), .second, .val (.long v26), .second, .val (.long v28), .second, .val (.long v30), .second, .val (.long ((v28 + r_321) + r_322)), .second, .unset, .unset] [(.int (5 : Int32)), (.int f), (.long v30)])) _
  refine XS.lload X322.here hx rfl (hb hby at_231) rfl ?_
  show Steps p.tables e below (T322.setTop (mkF m 233 #[.val (.long q0), .second, .val (.long q1), .second, .val (.long q2), .second, .val (.long q3), .second, .val (.long q4), .second, .val (.int p5), .val (.int f), .val (.int g), .val (.ref x1), .val (.ref x2), .val (.ref x3), .val (.long v16), .second, .val (.long v18), .second, .val (.long v20), .second, .val (.long v22), .second, .val (.long v24), .second, .val (.long v26), .second, .val (.long v28), .second, .val (.long v30), .second, .val (.long ((v28 + r_321) + r_322)), .second, .unset, .unset] [(.long q3), (.int (5 : Int32)), (.int f), (.long v30)])) _
  refine st323 _ ?_
  show Steps p.tables e below (T323.setTop (mkF m 236 #[.val (.long q0), .second, .val (.long q1), .second, .val (.long q2), .second, .val (.long q3), .second, .val (.long q4), .second, .val (.int p5), .val (.int f), .val (.int g), .val (.ref x1), .val (.ref x2), .val (.ref x3), .val (.long v16), .second, .val (.long v18), .second, .val (.long v20), .second, .val (.long v22), .second, .val (.long v24), .second, .val (.long v26), .second, .val (.long v28), .second, .val (.long v30), .second, .val (.long ((v28 + r_321) + r_322)), .second, .unset, .unset] [(.long r_323), (.long v30)])) _
  refine XS.ladd X323.here hx rfl (hb hby at_236) rfl ?_
  show Steps p.tables e below (T323.setTop (mkF m 237 #[.val (.long q0), .second, .val (.long q1), .second, .val (.long q2), .second, .val (.long q3), .second, .val (.long q4), .second, .val (.int p5), .val (.int f), .val (.int g), .val (.ref x1), .val (.ref x2), .val (.ref x3), .val (.long v16), .second, .val (.long v18), .second, .val (.long v20), .second, .val (.long v22), .second, .val (.long v24), .second, .val (.long v26), .second, .val (.long v28), .second, .val (.long v30), .second, .val (.long ((v28 + r_321) + r_322)), .second, .unset, .unset] [(.long (v30 + r_323))])) _
  refine XS.iload X323.here hx rfl (hb hby at_237) rfl ?_
  show Steps p.tables e below (T323.setTop (mkF m 239 #[.val (.long q0), .second, .val (.long q1), .second, .val (.long q2), .second, .val (.long q3), .second, .val (.long q4), .second, .val (.int p5), .val (.int f), .val (.int g), .val (.ref x1), .val (.ref x2), .val (.ref x3), .val (.long v16), .second, .val (.long v18), .second, .val (.long v20), .second, .val (.long v22), .second, .val (.long v24), .second, .val (.long v26), .second, .val (.long v28), .second, .val (.long v30), .second, .val (.long ((v28 + r_321) + r_322)), .second, .unset, .unset] [(.int g), (.long (v30 + r_323))])) _
  refine XS.iconst X323.here hx rfl (hb hby at_239) ?_
  show Steps p.tables e below (T323.setTop (mkF m 240 #[.val (.long q0), .second, .val (.long q1), .second, .val (.long q2), .second, .val (.long q3), .second, .val (.long q4), .second, .val (.int p5), .val (.int f), .val (.int g), .val (.ref x1), .val (.ref x2), .val (.ref x3), .val (.long v16), .second, .val (.long v18), .second, .val (.long v20), .second, .val (.long v22), .second, .val (.long v24), .second, .val (.long v26), .second, .val (.long v28), .second, .val (.long v30), .second, .val (.long ((v28 + r_321) + r_322)), .second, .unset, .unset] [(.int (5 : Int32)), (.int g), (.long (v30 + r_323))])) _
  refine XS.lload X323.here hx rfl (hb hby at_240) rfl ?_
  show Steps p.tables e below (T323.setTop (mkF m 242 #[.val (.long q0), .second, .val (.long q1), .second, .val (.long q2), .second, .val (.long q3), .second, .val (.long q4), .second, .val (.int p5), .val (.int f), .val (.int g), .val (.ref x1), .val (.ref x2), .val (.ref x3), .val (.long v16), .second, .val (.long v18), .second, .val (.long v20), .second, .val (.long v22), .second, .val (.long v24), .second, .val (.long v26), .second, .val (.long v28), .second, .val (.long v30), .second, .val (.long ((v28 + r_321) + r_322)), .second, .unset, .unset] [(.long q4), (.int (5 : Int32)), (.int g), (.long (v30 + r_323))])) _
  refine st324 _ ?_
  show Steps p.tables e below (T324.setTop (mkF m 245 #[.val (.long q0), .second, .val (.long q1), .second, .val (.long q2), .second, .val (.long q3), .second, .val (.long q4), .second, .val (.int p5), .val (.int f), .val (.int g), .val (.ref x1), .val (.ref x2), .val (.ref x3), .val (.long v16), .second, .val (.long v18), .second, .val (.long v20), .second, .val (.long v22), .second, .val (.long v24), .second, .val (.long v26), .second, .val (.long v28), .second, .val (.long v30), .second, .val (.long ((v28 + r_321) + r_322)), .second, .unset, .unset] [(.long r_324), (.long (v30 + r_323))])) _
  refine XS.ladd X324.here hx rfl (hb hby at_245) rfl ?_
  show Steps p.tables e below (T324.setTop (mkF m 246 #[.val (.long q0), .second, .val (.long q1), .second, .val (.long q2), .second, .val (.long q3), .second, .val (.long q4), .second, .val (.int p5), .val (.int f), .val (.int g), .val (.ref x1), .val (.ref x2), .val (.ref x3), .val (.long v16), .second, .val (.long v18), .second, .val (.long v20), .second, .val (.long v22), .second, .val (.long v24), .second, .val (.long v26), .second, .val (.long v28), .second, .val (.long v30), .second, .val (.long ((v28 + r_321) + r_322)), .second, .unset, .unset] [(.long ((v30 + r_323) + r_324))])) _
  refine XS.lstore X324.here hx rfl (hb hby at_246) rfl (l' := #[.val (.long q0), .second, .val (.long q1), .second, .val (.long q2), .second, .val (.long q3), .second, .val (.long q4), .second, .val (.int p5), .val (.int f), .val (.int g), .val (.ref x1), .val (.ref x2), .val (.ref x3), .val (.long v16), .second, .val (.long v18), .second, .val (.long v20), .second, .val (.long v22), .second, .val (.long v24), .second, .val (.long v26), .second, .val (.long v28), .second, .val (.long v30), .second, .val (.long ((v28 + r_321) + r_322)), .second, .val (.long ((v30 + r_323) + r_324)), .second]) rfl ?_
  exact kt
theorem pd__Lcom_example_cistern_cistern_PoolState_Counters_IJJJJ_V : parseMethodDescriptor "(Lcom/example/cistern/cistern/PoolState$Counters;IJJJJ)V" = some ⟨[(.object "com/example/cistern/cistern/PoolState$Counters"), .int, .long, .long, .long, .long], none⟩ := by decide +kernel
theorem pd__Lcom_example_cistern_cistern_PoolState_Counters__V : parseMethodDescriptor "(Lcom/example/cistern/cistern/PoolState$Counters;)V" = some ⟨[(.object "com/example/cistern/cistern/PoolState$Counters")], none⟩ := by decide +kernel
theorem pd__III_Lcom_example_cistern_cistern_PoolState_ : parseMethodDescriptor "(III)Lcom/example/cistern/cistern/PoolState;" = some ⟨[.int, .int, .int], some (.object "com/example/cistern/cistern/PoolState")⟩ := by decide +kernel
theorem pd___J : parseMethodDescriptor "()J" = some ⟨[], some .long⟩ := by decide +kernel
def Q0 (Z : State) (ns : Addr) (q0 : Int64) (q1 : Int64) (q2 : Int64) (q3 : Int64) (q4 : Int64) (p5 : Int32) (h0 : Heap) (n0 : Nat) (v : Option Value) (h : Heap) (L : List Loc) : Prop := v = some (.int (1 : Int32)) ∧ Fr n0 L ∧ Keep h0 h []
theorem ef_code_JJJJJI (m : MethodId) (x0 : Int64) (x1 : Int64) (x2 : Int64) (x3 : Int64) (x4 : Int64) (x5 : Int32) : entryFrame m #[(.long x0), (.long x1), (.long x2), (.long x3), (.long x4), (.int x5)] maxLocals = mkF m 0 #[.val (.long x0), .second, .val (.long x1), .second, .val (.long x2), .second, .val (.long x3), .second, .val (.long x4), .second, .val (.int x5), .unset, .unset, .unset, .unset, .unset, .unset, .unset, .unset, .unset, .unset, .unset, .unset, .unset, .unset, .unset, .unset, .unset, .unset, .unset, .unset, .unset, .unset, .unset, .unset, .unset] [] := by first | (simp [entryFrame, mkF, argsToLocals, Value.category, maxLocals]; done) | rfl
set_option maxRecDepth 65536 in
set_option maxHeartbeats 40000000 in
theorem rm0 (l : Launch) (Z : State) (a0 : Array Value) (ns : Addr) (hG : Glob Z a0 ns) (ws : List Jvm.Cond) (q0 : Int64) (q1 : Int64) (q2 : Int64) (q3 : Int64) (q4 : Int64) (p5 : Int32) (h0 : Heap) (n0 : Nat) (Z0 : n0 ≤ h0.size) (X00 : Old Z n0 h0) :
    MetFree l x (head1 (Jvm.Cond.code x code maxLocals ret :: ws) room_1) (fun a U => a = #[(.long q0), (.long q1), (.long q2), (.long q3), (.long q4), (.int p5)] ∧ Z.Warmed39 U.vm ∧ U.heap = h0) (fun _ _ _ _ _ => True) (fun _ U o U' => ∃ v L, o = .returned v ∧ Q0 Z ns q0 q1 q2 q3 q4 p5 h0 n0 v U'.heap L ∧ FrameEnd U o U' L room_1.cells room_1.slots) := by
  obtain ⟨hw, O_ns, O_ens, O_scale, O_ratio⟩ := id hG
  have W : ∀ (i : Nat) {d : Jvm.Cond}, tables_1[i]? = some d → d.before a0 Z = true := fun i d h => hw d (List.mem_of_getElem? h)
  refine MetFree.of_bodySF (plainFor_of_name pn_com_example_cistern_cistern_CountersAddPinLaw) hisR ?_
  intro p e s m args below meth c s₁ Bd hml0 hP hK
  obtain ⟨rfl, hZ, hh⟩ := hP
  have hx := Bd.exec
  have hby := Bd.bytes
  have hml : c.maxLocals = 36 := hml0
  have hown : s.vm.findClass "com/example/cistern/cistern/CountersAddPinLaw" = some m.cls := findClass_of_methodNamed Bd.named
  have hnm := (name_of_methodNamed Bd.named Bd.method).1
  have X0 : Stand p l e room_1 s m #[(.long q0), (.long q1), (.long q2), (.long q3), (.long q4), (.int p5)] below meth c s₁ [] 0 0 := Stand.of_body Bd
  have e0 : s₁.heap = h0 := by rw [← hh, Bd.state]; rfl
  have N0 := Fr.nil n0
  have pre0 : ∀ t, Steps p.tables e below (s₁.setTop (mkF m 0 #[.val (.long q0), .second, .val (.long q1), .second, .val (.long q2), .second, .val (.long q3), .second, .val (.long q4), .second, .val (.int p5), .unset, .unset, .unset, .unset, .unset, .unset, .unset, .unset, .unset, .unset, .unset, .unset, .unset, .unset, .unset, .unset, .unset, .unset, .unset, .unset, .unset, .unset, .unset, .unset, .unset] [])) t → Steps p.tables e below (s₁.setTop (entryFrame m #[(.long q0), (.long q1), (.long q2), (.long q3), (.long q4), (.int p5)] maxLocals)) t := fun t kk_ => castTop (ef_code_JJJJJI m q0 q1 q2 q3 q4 p5) kk_
  obtain ⟨T325, h325, X325, e325, E325, A325, D325, -, st325⟩ := newO X0 hx hZ hown (W 0 rfl) (W 1 rfl) (W 2 rfl) e0 (g := (mkF m 17 #[.val (.long q0), .second, .val (.long q1), .second, .val (.long q2), .second, .val (.long q3), .second, .val (.long q4), .second, .val (.int p5), .val (.int (p5 &&& (63 : Int32))), .val (.int (((p5.toUInt32 >>> ((6 : Int32) &&& 31).toUInt32).toInt32) &&& (63 : Int32))), .unset, .unset, .unset, .unset, .unset, .unset, .unset, .unset, .unset, .unset, .unset, .unset, .unset, .unset, .unset, .unset, .unset, .unset, .unset, .unset, .unset, .unset, .unset] [])) rfl (hb hby at_17) (by decide) (by decide)
  obtain ⟨b325, g325⟩ : ∃ z, z = h0.size := ⟨_, rfl⟩
  rw [← g325] at A325 D325 st325
  have Z326 : n0 ≤ h325.size := Nat.le_trans Z0 E325.1
  have K0_326 : Keep h0 h325 [] := (Keep.refl h0 []).ext E325
  have O326 : Old Z n0 h325 := X00.ext E325
  have lo_b325 : h0.size ≤ b325 := Nat.le_of_eq g325.symm
  have g_b325 : n0 ≤ b325 := Nat.le_trans Z0 lo_b325
  have l0_b325 : h0.size ≤ b325 := Nat.le_trans (Keep.refl h0 []).1 lo_b325
  have F_hadToWaitCount_b325 : Fld Z h325 b325 "com/example/cistern/cistern/PoolState$Counters" "hadToWaitCount" "J" (.long (0 : Int64)) := D325 (Or.inl (W 19 rfl)) (ty := .long) (by decide)
  have F_waitNanos_b325 : Fld Z h325 b325 "com/example/cistern/cistern/PoolState$Counters" "waitNanos" "J" (.long (0 : Int64)) := D325 (Or.inl (W 21 rfl)) (ty := .long) (by decide)
  have F_requestCount_b325 : Fld Z h325 b325 "com/example/cistern/cistern/PoolState$Counters" "requestCount" "J" (.long (0 : Int64)) := D325 (Or.inl (W 28 rfl)) (ty := .long) (by decide)
  have F_requestNanos_b325 : Fld Z h325 b325 "com/example/cistern/cistern/PoolState$Counters" "requestNanos" "J" (.long (0 : Int64)) := D325 (Or.inl (W 30 rfl)) (ty := .long) (by decide)
  have F_badConnectionCount_b325 : Fld Z h325 b325 "com/example/cistern/cistern/PoolState$Counters" "badConnectionCount" "J" (.long (0 : Int64)) := D325 (Or.inl (W 32 rfl)) (ty := .long) (by decide)
  have F_claimedOverdueCount_b325 : Fld Z h325 b325 "com/example/cistern/cistern/PoolState$Counters" "claimedOverdueCount" "J" (.long (0 : Int64)) := D325 (Or.inl (W 34 rfl)) (ty := .long) (by decide)
  have F_overdueCheckoutNanos_b325 : Fld Z h325 b325 "com/example/cistern/cistern/PoolState$Counters" "overdueCheckoutNanos" "J" (.long (0 : Int64)) := D325 (Or.inl (W 36 rfl)) (ty := .long) (by decide)
  have F_checkoutCount_b325 : Fld Z h325 b325 "com/example/cistern/cistern/PoolState$Counters" "checkoutCount" "J" (.long (0 : Int64)) := D325 (Or.inl (W 38 rfl)) (ty := .long) (by decide)
  have F_checkoutNanos_b325 : Fld Z h325 b325 "com/example/cistern/cistern/PoolState$Counters" "checkoutNanos" "J" (.long (0 : Int64)) := D325 (Or.inl (W 40 rfl)) (ty := .long) (by decide)
  have F_connectionsOpened_b325 : Fld Z h325 b325 "com/example/cistern/cistern/PoolState$Counters" "connectionsOpened" "J" (.long (0 : Int64)) := D325 (Or.inl (W 42 rfl)) (ty := .long) (by decide)
  -- pc 21: com/example/cistern/cistern/PoolState$Counters.<init>
  obtain ⟨_, _, ⟨T327, L327, k327, n327⟩, -, X327, ⟨Lc327, hQ327, l327, y327, z327⟩, st327⟩ := X325.specialBack hx (y := y4) rfl hown (mvT hZ (W 3 rfl)) (mvT hZ (W 4 rfl)) (mvT hZ (W 5 rfl)) (by decide) (backOf (W := 1) (rmcti l Z a0 ns hG [] b325 h325 n0 Z326 O326) hZ (W 5 rfl) (W 2 rfl) (by decide) (by decide)) (g := (mkF m 21 #[.val (.long q0), .second, .val (.long q1), .second, .val (.long q2), .second, .val (.long q3), .second, .val (.long q4), .second, .val (.int p5), .val (.int (p5 &&& (63 : Int32))), .val (.int (((p5.toUInt32 >>> ((6 : Int32) &&& 31).toUInt32).toInt32) &&& (63 : Int32))), .unset, .unset, .unset, .unset, .unset, .unset, .unset, .unset, .unset, .unset, .unset, .unset, .unset, .unset, .unset, .unset, .unset, .unset, .unset, .unset, .unset, .unset, .unset] [(.ref b325), (.ref b325)])) rfl (by rw [hml]; rfl) (Steps.refl _) (a := b325) (argsL := []) (rest := [(.ref b325)]) (lenOf pd___V rfl) rfl (by show 2 * 0 + _ ≤ _; exact Nat.le_of_eq rfl) (hb hby at_21) (fun _ _ => ⟨rfl, e325, (by decide : 1 + 0 ≤ _), (by decide : 10 + 0 ≤ _)⟩)
  dsimp only [Pt.U, Pt.locs, Pt.cells, Pt.slots] at X327 l327 y327 z327 st327 hQ327
  subst l327 y327 z327
  obtain ⟨rfl, N327q, eq327⟩ := hQ327
  have N327 := Fr.app N0 N327q
  obtain ⟨T328, h328, X328, e328, E328, A328, D328, -, st328⟩ := newO X327 hx hZ hown (W 0 rfl) (W 1 rfl) (W 2 rfl) eq327 (g := (mkF m 26 #[.val (.long q0), .second, .val (.long q1), .second, .val (.long q2), .second, .val (.long q3), .second, .val (.long q4), .second, .val (.int p5), .val (.int (p5 &&& (63 : Int32))), .val (.int (((p5.toUInt32 >>> ((6 : Int32) &&& 31).toUInt32).toInt32) &&& (63 : Int32))), .val (.ref b325), .unset, .unset, .unset, .unset, .unset, .unset, .unset, .unset, .unset, .unset, .unset, .unset, .unset, .unset, .unset, .unset, .unset, .unset, .unset, .unset, .unset, .unset] [])) rfl (hb hby at_26) (by decide) (by decide)
  obtain ⟨b328, g328⟩ : ∃ z, z = h325.size := ⟨_, rfl⟩
  rw [← g328] at A328 D328 st328
  have Z329 : n0 ≤ h328.size := Nat.le_trans Z326 E328.1
  have K0_329 : Keep h0 h328 [] := K0_326.ext E328
  have O329 : Old Z n0 h328 := O326.ext E328
  have lo_b328 : h325.size ≤ b328 := Nat.le_of_eq g328.symm
  have g_b328 : n0 ≤ b328 := Nat.le_trans Z326 lo_b328
  have l0_b328 : h0.size ≤ b328 := Nat.le_trans K0_326.1 lo_b328
  have F_hadToWaitCount_b328 : Fld Z h328 b328 "com/example/cistern/cistern/PoolState$Counters" "hadToWaitCount" "J" (.long (0 : Int64)) := D328 (Or.inl (W 19 rfl)) (ty := .long) (by decide)
  have F_waitNanos_b328 : Fld Z h328 b328 "com/example/cistern/cistern/PoolState$Counters" "waitNanos" "J" (.long (0 : Int64)) := D328 (Or.inl (W 21 rfl)) (ty := .long) (by decide)
  have F_requestCount_b328 : Fld Z h328 b328 "com/example/cistern/cistern/PoolState$Counters" "requestCount" "J" (.long (0 : Int64)) := D328 (Or.inl (W 28 rfl)) (ty := .long) (by decide)
  have F_requestNanos_b328 : Fld Z h328 b328 "com/example/cistern/cistern/PoolState$Counters" "requestNanos" "J" (.long (0 : Int64)) := D328 (Or.inl (W 30 rfl)) (ty := .long) (by decide)
  have F_badConnectionCount_b328 : Fld Z h328 b328 "com/example/cistern/cistern/PoolState$Counters" "badConnectionCount" "J" (.long (0 : Int64)) := D328 (Or.inl (W 32 rfl)) (ty := .long) (by decide)
  have F_claimedOverdueCount_b328 : Fld Z h328 b328 "com/example/cistern/cistern/PoolState$Counters" "claimedOverdueCount" "J" (.long (0 : Int64)) := D328 (Or.inl (W 34 rfl)) (ty := .long) (by decide)
  have F_overdueCheckoutNanos_b328 : Fld Z h328 b328 "com/example/cistern/cistern/PoolState$Counters" "overdueCheckoutNanos" "J" (.long (0 : Int64)) := D328 (Or.inl (W 36 rfl)) (ty := .long) (by decide)
  have F_checkoutCount_b328 : Fld Z h328 b328 "com/example/cistern/cistern/PoolState$Counters" "checkoutCount" "J" (.long (0 : Int64)) := D328 (Or.inl (W 38 rfl)) (ty := .long) (by decide)
  have F_checkoutNanos_b328 : Fld Z h328 b328 "com/example/cistern/cistern/PoolState$Counters" "checkoutNanos" "J" (.long (0 : Int64)) := D328 (Or.inl (W 40 rfl)) (ty := .long) (by decide)
  have F_connectionsOpened_b328 : Fld Z h328 b328 "com/example/cistern/cistern/PoolState$Counters" "connectionsOpened" "J" (.long (0 : Int64)) := D328 (Or.inl (W 42 rfl)) (ty := .long) (by decide)
  -- pc 30: com/example/cistern/cistern/PoolState$Counters.<init>
  obtain ⟨_, _, ⟨T330, L330, k330, n330⟩, -, X330, ⟨Lc330, hQ330, l330, y330, z330⟩, st330⟩ := X328.specialBack hx (y := y4) rfl hown (mvT hZ (W 3 rfl)) (mvT hZ (W 4 rfl)) (mvT hZ (W 5 rfl)) (by decide) (backOf (W := 1) (rmcti l Z a0 ns hG [] b328 h328 n0 Z329 O329) hZ (W 5 rfl) (W 2 rfl) (by decide) (by decide)) (g := (mkF m 30 #[.val (.long q0), .second, .val (.long q1), .second, .val (.long q2), .second, .val (.long q3), .second, .val (.long q4), .second, .val (.int p5), .val (.int (p5 &&& (63 : Int32))), .val (.int (((p5.toUInt32 >>> ((6 : Int32) &&& 31).toUInt32).toInt32) &&& (63 : Int32))), .val (.ref b325), .unset, .unset, .unset, .unset, .unset, .unset, .unset, .unset, .unset, .unset, .unset, .unset, .unset, .unset, .unset, .unset, .unset, .unset, .unset, .unset, .unset, .unset] [(.ref b328), (.ref b328)])) rfl (by rw [hml]; rfl) (Steps.refl _) (a := b328) (argsL := []) (rest := [(.ref b328)]) (lenOf pd___V rfl) rfl (by show 2 * 0 + _ ≤ _; exact Nat.le_of_eq rfl) (hb hby at_30) (fun _ _ => ⟨rfl, e328, (by decide : 2 + 0 ≤ _), (by decide : 20 + 0 ≤ _)⟩)
  dsimp only [Pt.U, Pt.locs, Pt.cells, Pt.slots] at X330 l330 y330 z330 st330 hQ330
  subst l330 y330 z330
  obtain ⟨rfl, N330q, eq330⟩ := hQ330
  have N330 := Fr.app N327 N330q
  have f332 := (A325.ext E328)
  have f333 := (F_requestCount_b325.ext E328)
  have f334 := (F_requestNanos_b325.ext E328)
  have f335 := (F_hadToWaitCount_b325.ext E328)
  have f336 := (F_waitNanos_b325.ext E328)
  have f337 := (F_badConnectionCount_b325.ext E328)
  have f338 := (F_claimedOverdueCount_b325.ext E328)
  have f339 := (F_overdueCheckoutNanos_b325.ext E328)
  have f340 := (F_checkoutCount_b325.ext E328)
  have f341 := (F_checkoutNanos_b325.ext E328)
  have f342 := (F_connectionsOpened_b325.ext E328)
  -- pc 45: com/example/cistern/cistern/CountersAddPinLaw.fill
  obtain ⟨_, _, ⟨T331, L331, k331, n331⟩, -, X331, ⟨Lc331, hQ331, l331, y331, z331⟩, st331⟩ := Jvm.LawKit.callS X330 hx (y := y24) hown (mvT hZ (W 9 rfl)) (mvT hZ (W 10 rfl)) (mvT hZ (W 11 rfl)) (mvT hZ (W 12 rfl)) (by decide) (backOf (W := 0) (rmfill l Z a0 ns hG [] b325 (p5 &&& (63 : Int32)) q0 q1 q2 q3 (0 : Int64) (0 : Int64) (0 : Int64) (0 : Int64) (0 : Int64) (0 : Int64) (0 : Int64) (0 : Int64) (0 : Int64) (0 : Int64) h328 n0 Z329 O329 f332 g_b325 f333 f334 f335 f336 f337 f338 f339 f340 f341 f342) hZ (W 12 rfl) (W 11 rfl) (by decide) (by decide)) (g := (mkF m 45 #[.val (.long q0), .second, .val (.long q1), .second, .val (.long q2), .second, .val (.long q3), .second, .val (.long q4), .second, .val (.int p5), .val (.int (p5 &&& (63 : Int32))), .val (.int (((p5.toUInt32 >>> ((6 : Int32) &&& 31).toUInt32).toInt32) &&& (63 : Int32))), .val (.ref b325), .val (.ref b328), .unset, .unset, .unset, .unset, .unset, .unset, .unset, .unset, .unset, .unset, .unset, .unset, .unset, .unset, .unset, .unset, .unset, .unset, .unset, .unset, .unset] [(.long q3), (.long q2), (.long q1), (.long q0), (.int (p5 &&& (63 : Int32))), (.ref b325)])) rfl (by rw [hml]; rfl) (argsL := [(.ref b325), (.int (p5 &&& (63 : Int32))), (.long q0), (.long q1), (.long q2), (.long q3)]) (rest := []) (lenOf pd__Lcom_example_cistern_cistern_PoolState_Counters_IJJJJ_V rfl) rfl (by show 2 * 0 + _ ≤ _; exact Nat.le_of_eq rfl) (hb hby at_45) (fun _ _ => ⟨rfl, eq330, (by decide : 2 + 0 ≤ _), (by decide : 20 + 0 ≤ _)⟩)
  dsimp only [Pt.U, Pt.locs, Pt.cells, Pt.slots] at X331 l331 y331 z331 st331 hQ331
  subst l331 y331 z331
  obtain ⟨rfl, N331q, K331, f331_0, f331_1, f331_2, f331_3, f331_4, f331_5, f331_6, f331_7, f331_8, f331_9, f331_10⟩ := hQ331
  have N331 := Fr.app N330 N331q
  have Z343 : n0 ≤ T331.heap.size := Nat.le_trans Z329 K331.1
  have K0_343 : Keep h0 T331.heap [] := K0_329.trans K331 (allS (Or.inr l0_b325) all0)
  have O343 : Old Z n0 T331.heap := O329.keep K331 (allS g_b325 all0)
  have f345 := (A328.keep K331)
  have f346 := (F_requestCount_b328.keep K331 (ninS (Ne.symm (Nat.ne_of_lt (Nat.lt_of_lt_of_le A325.lt lo_b328))) nin0))
  have f347 := (F_requestNanos_b328.keep K331 (ninS (Ne.symm (Nat.ne_of_lt (Nat.lt_of_lt_of_le A325.lt lo_b328))) nin0))
  have f348 := (F_hadToWaitCount_b328.keep K331 (ninS (Ne.symm (Nat.ne_of_lt (Nat.lt_of_lt_of_le A325.lt lo_b328))) nin0))
  have f349 := (F_waitNanos_b328.keep K331 (ninS (Ne.symm (Nat.ne_of_lt (Nat.lt_of_lt_of_le A325.lt lo_b328))) nin0))
  have f350 := (F_badConnectionCount_b328.keep K331 (ninS (Ne.symm (Nat.ne_of_lt (Nat.lt_of_lt_of_le A325.lt lo_b328))) nin0))
  have f351 := (F_claimedOverdueCount_b328.keep K331 (ninS (Ne.symm (Nat.ne_of_lt (Nat.lt_of_lt_of_le A325.lt lo_b328))) nin0))
  have f352 := (F_overdueCheckoutNanos_b328.keep K331 (ninS (Ne.symm (Nat.ne_of_lt (Nat.lt_of_lt_of_le A325.lt lo_b328))) nin0))
  have f353 := (F_checkoutCount_b328.keep K331 (ninS (Ne.symm (Nat.ne_of_lt (Nat.lt_of_lt_of_le A325.lt lo_b328))) nin0))
  have f354 := (F_checkoutNanos_b328.keep K331 (ninS (Ne.symm (Nat.ne_of_lt (Nat.lt_of_lt_of_le A325.lt lo_b328))) nin0))
  have f355 := (F_connectionsOpened_b328.keep K331 (ninS (Ne.symm (Nat.ne_of_lt (Nat.lt_of_lt_of_le A325.lt lo_b328))) nin0))
  -- pc 59: com/example/cistern/cistern/CountersAddPinLaw.fill
  obtain ⟨_, _, ⟨T344, L344, k344, n344⟩, -, X344, ⟨Lc344, hQ344, l344, y344, z344⟩, st344⟩ := Jvm.LawKit.callS X331 hx (y := y24) hown (mvT hZ (W 9 rfl)) (mvT hZ (W 10 rfl)) (mvT hZ (W 11 rfl)) (mvT hZ (W 12 rfl)) (by decide) (backOf (W := 0) (rmfill l Z a0 ns hG [] b328 (((p5.toUInt32 >>> ((6 : Int32) &&& 31).toUInt32).toInt32) &&& (63 : Int32)) q1 q2 q3 q4 (0 : Int64) (0 : Int64) (0 : Int64) (0 : Int64) (0 : Int64) (0 : Int64) (0 : Int64) (0 : Int64) (0 : Int64) (0 : Int64) T331.heap n0 Z343 O343 f345 g_b328 f346 f347 f348 f349 f350 f351 f352 f353 f354 f355) hZ (W 12 rfl) (W 11 rfl) (by decide) (by decide)) (g := (mkF m 59 #[.val (.long q0), .second, .val (.long q1), .second, .val (.long q2), .second, .val (.long q3), .second, .val (.long q4), .second, .val (.int p5), .val (.int (p5 &&& (63 : Int32))), .val (.int (((p5.toUInt32 >>> ((6 : Int32) &&& 31).toUInt32).toInt32) &&& (63 : Int32))), .val (.ref b325), .val (.ref b328), .unset, .unset, .unset, .unset, .unset, .unset, .unset, .unset, .unset, .unset, .unset, .unset, .unset, .unset, .unset, .unset, .unset, .unset, .unset, .unset, .unset] [(.long q4), (.long q3), (.long q2), (.long q1), (.int (((p5.toUInt32 >>> ((6 : Int32) &&& 31).toUInt32).toInt32) &&& (63 : Int32))), (.ref b328)])) rfl (by rw [hml]; rfl) (argsL := [(.ref b328), (.int (((p5.toUInt32 >>> ((6 : Int32) &&& 31).toUInt32).toInt32) &&& (63 : Int32))), (.long q1), (.long q2), (.long q3), (.long q4)]) (rest := []) (lenOf pd__Lcom_example_cistern_cistern_PoolState_Counters_IJJJJ_V rfl) rfl (by show 2 * 0 + _ ≤ _; exact Nat.le_of_eq rfl) (hb hby at_59) (fun _ _ => ⟨rfl, rfl, (by decide : 2 + 0 ≤ _), (by decide : 20 + 0 ≤ _)⟩)
  dsimp only [Pt.U, Pt.locs, Pt.cells, Pt.slots] at X344 l344 y344 z344 st344 hQ344
  subst l344 y344 z344
  obtain ⟨rfl, N344q, K344, f344_0, f344_1, f344_2, f344_3, f344_4, f344_5, f344_6, f344_7, f344_8, f344_9, f344_10⟩ := hQ344
  have N344 := Fr.app N331 N344q
  have Z356 : n0 ≤ T344.heap.size := Nat.le_trans Z343 K344.1
  have K0_356 : Keep h0 T344.heap [] := K0_343.trans K344 (allS (Or.inr l0_b328) all0)
  have O356 : Old Z n0 T344.heap := O343.keep K344 (allS g_b328 all0)
  have f358 := (f331_0.keep K344)
  have f359 := (f331_1.keep K344 (ninS (Nat.ne_of_lt (Nat.lt_of_lt_of_le A325.lt lo_b328)) nin0))
  have f360 := (f331_2.keep K344 (ninS (Nat.ne_of_lt (Nat.lt_of_lt_of_le A325.lt lo_b328)) nin0))
  have f361 := (f331_3.keep K344 (ninS (Nat.ne_of_lt (Nat.lt_of_lt_of_le A325.lt lo_b328)) nin0))
  have f362 := (f331_4.keep K344 (ninS (Nat.ne_of_lt (Nat.lt_of_lt_of_le A325.lt lo_b328)) nin0))
  have f363 := (f331_5.keep K344 (ninS (Nat.ne_of_lt (Nat.lt_of_lt_of_le A325.lt lo_b328)) nin0))
  have f364 := (f331_6.keep K344 (ninS (Nat.ne_of_lt (Nat.lt_of_lt_of_le A325.lt lo_b328)) nin0))
  have f365 := (f331_7.keep K344 (ninS (Nat.ne_of_lt (Nat.lt_of_lt_of_le A325.lt lo_b328)) nin0))
  have f366 := (f331_8.keep K344 (ninS (Nat.ne_of_lt (Nat.lt_of_lt_of_le A325.lt lo_b328)) nin0))
  have f367 := (f331_9.keep K344 (ninS (Nat.ne_of_lt (Nat.lt_of_lt_of_le A325.lt lo_b328)) nin0))
  have f368 := (f331_10.keep K344 (ninS (Nat.ne_of_lt (Nat.lt_of_lt_of_le A325.lt lo_b328)) nin0))
  obtain ⟨cq357, kq357, q357a, q357b, q357c⟩ := isOf hZ rfl f358
  -- pc 66: com/example/cistern/cistern/PoolState$Counters.add
  obtain ⟨_, _, ⟨T357, L357, k357, n357⟩, -, X357, ⟨Lc357, hQ357, l357, y357, z357⟩, st357⟩ := X344.virtualBack hx (y := y20) (z := y20) hown (mvT hZ (W 22 rfl)) (mvT hZ (W 23 rfl)) (notFace_of_selects (args := #[]) (mvT hZ (W 25 rfl))) (mvT hZ (W 25 rfl)) (mvT hZ (W 24 rfl)) (by decide) (backOf (W := 0) (rmadd l Z a0 ns hG [] b325 b328 (if ((p5 &&& (63 : Int32)) &&& (1 : Int32)) = (0 : Int32) then (0 : Int64) else ((0 : Int64) + (1 : Int64))) (if ((p5 &&& (63 : Int32)) &&& (1 : Int32)) = (0 : Int32) then (0 : Int64) else ((0 : Int64) + q0)) (if ((p5 &&& (63 : Int32)) &&& (2 : Int32)) = (0 : Int32) then (0 : Int64) else ((0 : Int64) + (1 : Int64))) (if ((p5 &&& (63 : Int32)) &&& (2 : Int32)) = (0 : Int32) then (0 : Int64) else ((0 : Int64) + q1)) (if ((p5 &&& (63 : Int32)) &&& (4 : Int32)) = (0 : Int32) then (0 : Int64) else ((0 : Int64) + (1 : Int64))) (if ((p5 &&& (63 : Int32)) &&& (16 : Int32)) = (0 : Int32) then (0 : Int64) else ((0 : Int64) + (1 : Int64))) (if ((p5 &&& (63 : Int32)) &&& (16 : Int32)) = (0 : Int32) then (0 : Int64) else ((0 : Int64) + q2)) (if ((p5 &&& (63 : Int32)) &&& (32 : Int32)) = (0 : Int32) then (if ((p5 &&& (63 : Int32)) &&& (16 : Int32)) = (0 : Int32) then (0 : Int64) else ((0 : Int64) + (1 : Int64))) else ((if ((p5 &&& (63 : Int32)) &&& (16 : Int32)) = (0 : Int32) then (0 : Int64) else ((0 : Int64) + (1 : Int64))) + (1 : Int64))) (if ((p5 &&& (63 : Int32)) &&& (32 : Int32)) = (0 : Int32) then (if ((p5 &&& (63 : Int32)) &&& (16 : Int32)) = (0 : Int32) then (0 : Int64) else ((0 : Int64) + q2)) else ((if ((p5 &&& (63 : Int32)) &&& (16 : Int32)) = (0 : Int32) then (0 : Int64) else ((0 : Int64) + q2)) + q3)) (if ((p5 &&& (63 : Int32)) &&& (8 : Int32)) = (0 : Int32) then (0 : Int64) else ((0 : Int64) + (1 : Int64))) (if ((((p5.toUInt32 >>> ((6 : Int32) &&& 31).toUInt32).toInt32) &&& (63 : Int32)) &&& (1 : Int32)) = (0 : Int32) then (0 : Int64) else ((0 : Int64) + (1 : Int64))) (if ((((p5.toUInt32 >>> ((6 : Int32) &&& 31).toUInt32).toInt32) &&& (63 : Int32)) &&& (1 : Int32)) = (0 : Int32) then (0 : Int64) else ((0 : Int64) + q1)) (if ((((p5.toUInt32 >>> ((6 : Int32) &&& 31).toUInt32).toInt32) &&& (63 : Int32)) &&& (2 : Int32)) = (0 : Int32) then (0 : Int64) else ((0 : Int64) + (1 : Int64))) (if ((((p5.toUInt32 >>> ((6 : Int32) &&& 31).toUInt32).toInt32) &&& (63 : Int32)) &&& (2 : Int32)) = (0 : Int32) then (0 : Int64) else ((0 : Int64) + q2)) (if ((((p5.toUInt32 >>> ((6 : Int32) &&& 31).toUInt32).toInt32) &&& (63 : Int32)) &&& (4 : Int32)) = (0 : Int32) then (0 : Int64) else ((0 : Int64) + (1 : Int64))) (if ((((p5.toUInt32 >>> ((6 : Int32) &&& 31).toUInt32).toInt32) &&& (63 : Int32)) &&& (16 : Int32)) = (0 : Int32) then (0 : Int64) else ((0 : Int64) + (1 : Int64))) (if ((((p5.toUInt32 >>> ((6 : Int32) &&& 31).toUInt32).toInt32) &&& (63 : Int32)) &&& (16 : Int32)) = (0 : Int32) then (0 : Int64) else ((0 : Int64) + q3)) (if ((((p5.toUInt32 >>> ((6 : Int32) &&& 31).toUInt32).toInt32) &&& (63 : Int32)) &&& (32 : Int32)) = (0 : Int32) then (if ((((p5.toUInt32 >>> ((6 : Int32) &&& 31).toUInt32).toInt32) &&& (63 : Int32)) &&& (16 : Int32)) = (0 : Int32) then (0 : Int64) else ((0 : Int64) + (1 : Int64))) else ((if ((((p5.toUInt32 >>> ((6 : Int32) &&& 31).toUInt32).toInt32) &&& (63 : Int32)) &&& (16 : Int32)) = (0 : Int32) then (0 : Int64) else ((0 : Int64) + (1 : Int64))) + (1 : Int64))) (if ((((p5.toUInt32 >>> ((6 : Int32) &&& 31).toUInt32).toInt32) &&& (63 : Int32)) &&& (32 : Int32)) = (0 : Int32) then (if ((((p5.toUInt32 >>> ((6 : Int32) &&& 31).toUInt32).toInt32) &&& (63 : Int32)) &&& (16 : Int32)) = (0 : Int32) then (0 : Int64) else ((0 : Int64) + q3)) else ((if ((((p5.toUInt32 >>> ((6 : Int32) &&& 31).toUInt32).toInt32) &&& (63 : Int32)) &&& (16 : Int32)) = (0 : Int32) then (0 : Int64) else ((0 : Int64) + q3)) + q4)) (if ((((p5.toUInt32 >>> ((6 : Int32) &&& 31).toUInt32).toInt32) &&& (63 : Int32)) &&& (8 : Int32)) = (0 : Int32) then (0 : Int64) else ((0 : Int64) + (1 : Int64))) T344.heap n0 Z356 O356 f358 g_b325 (Ne.symm (Nat.ne_of_lt (Nat.lt_of_lt_of_le A325.lt lo_b328))) f359 f360 f361 f362 f363 f364 f365 f366 f367 f368 f344_1 f344_2 f344_3 f344_4 f344_5 f344_6 f344_7 f344_8 f344_9 f344_10) hZ (W 26 rfl) (W 2 rfl) (by decide) (by decide)) q357a q357c (g := (mkF m 66 #[.val (.long q0), .second, .val (.long q1), .second, .val (.long q2), .second, .val (.long q3), .second, .val (.long q4), .second, .val (.int p5), .val (.int (p5 &&& (63 : Int32))), .val (.int (((p5.toUInt32 >>> ((6 : Int32) &&& 31).toUInt32).toInt32) &&& (63 : Int32))), .val (.ref b325), .val (.ref b328), .unset, .unset, .unset, .unset, .unset, .unset, .unset, .unset, .unset, .unset, .unset, .unset, .unset, .unset, .unset, .unset, .unset, .unset, .unset, .unset, .unset] [(.ref b328), (.ref b325)])) rfl (by rw [hml]; rfl) (Steps.refl _) (argsL := [(.ref b328)]) (rest := []) (lenOf pd__Lcom_example_cistern_cistern_PoolState_Counters__V rfl) rfl (by show 2 * 0 + _ ≤ _; exact Nat.le_of_eq rfl) (hb hby at_66) (fun _ _ => ⟨rfl, rfl, (by decide : 2 + 0 ≤ _), (by decide : 20 + 0 ≤ _)⟩)
  dsimp only [Pt.U, Pt.locs, Pt.cells, Pt.slots] at X357 l357 y357 z357 st357 hQ357
  subst l357 y357 z357
  obtain ⟨rfl, N357q, K357, f357_0, f357_1, f357_2, f357_3, f357_4, f357_5, f357_6, f357_7, f357_8, f357_9, f357_10⟩ := hQ357
  have N357 := Fr.app N344 N357q
  have Z369 : n0 ≤ T357.heap.size := Nat.le_trans Z356 K357.1
  have K0_369 : Keep h0 T357.heap [] := K0_356.trans K357 (allS (Or.inr l0_b325) all0)
  have O369 : Old Z n0 T357.heap := O356.keep K357 (allS g_b325 all0)
  obtain ⟨cq370, kq370, q370a, q370b, q370c⟩ := isOf hZ rfl f357_0
  -- pc 74: com/example/cistern/cistern/PoolState$Counters.snapshot
  obtain ⟨_, _, ⟨T370, L370, k370, n370⟩, -, X370, ⟨Lc370, hQ370, l370, y370, z370⟩, st370⟩ := X357.virtualBack hx (y := y3) (z := y3) hown (mvT hZ (W 43 rfl)) (mvT hZ (W 44 rfl)) (notFace_of_selects (args := #[]) (mvT hZ (W 46 rfl))) (mvT hZ (W 46 rfl)) (mvT hZ (W 45 rfl)) (by decide) (backOf (W := 0) (rmsnap l Z a0 ns hG [] b325 (0 : Int32) (0 : Int32) (0 : Int32) ((if ((p5 &&& (63 : Int32)) &&& (1 : Int32)) = (0 : Int32) then (0 : Int64) else ((0 : Int64) + (1 : Int64))) + (if ((((p5.toUInt32 >>> ((6 : Int32) &&& 31).toUInt32).toInt32) &&& (63 : Int32)) &&& (1 : Int32)) = (0 : Int32) then (0 : Int64) else ((0 : Int64) + (1 : Int64)))) ((if ((p5 &&& (63 : Int32)) &&& (1 : Int32)) = (0 : Int32) then (0 : Int64) else ((0 : Int64) + q0)) + (if ((((p5.toUInt32 >>> ((6 : Int32) &&& 31).toUInt32).toInt32) &&& (63 : Int32)) &&& (1 : Int32)) = (0 : Int32) then (0 : Int64) else ((0 : Int64) + q1))) ((if ((p5 &&& (63 : Int32)) &&& (2 : Int32)) = (0 : Int32) then (0 : Int64) else ((0 : Int64) + (1 : Int64))) + (if ((((p5.toUInt32 >>> ((6 : Int32) &&& 31).toUInt32).toInt32) &&& (63 : Int32)) &&& (2 : Int32)) = (0 : Int32) then (0 : Int64) else ((0 : Int64) + (1 : Int64)))) ((if ((p5 &&& (63 : Int32)) &&& (2 : Int32)) = (0 : Int32) then (0 : Int64) else ((0 : Int64) + q1)) + (if ((((p5.toUInt32 >>> ((6 : Int32) &&& 31).toUInt32).toInt32) &&& (63 : Int32)) &&& (2 : Int32)) = (0 : Int32) then (0 : Int64) else ((0 : Int64) + q2))) ((if ((p5 &&& (63 : Int32)) &&& (4 : Int32)) = (0 : Int32) then (0 : Int64) else ((0 : Int64) + (1 : Int64))) + (if ((((p5.toUInt32 >>> ((6 : Int32) &&& 31).toUInt32).toInt32) &&& (63 : Int32)) &&& (4 : Int32)) = (0 : Int32) then (0 : Int64) else ((0 : Int64) + (1 : Int64)))) ((if ((p5 &&& (63 : Int32)) &&& (16 : Int32)) = (0 : Int32) then (0 : Int64) else ((0 : Int64) + (1 : Int64))) + (if ((((p5.toUInt32 >>> ((6 : Int32) &&& 31).toUInt32).toInt32) &&& (63 : Int32)) &&& (16 : Int32)) = (0 : Int32) then (0 : Int64) else ((0 : Int64) + (1 : Int64)))) ((if ((p5 &&& (63 : Int32)) &&& (16 : Int32)) = (0 : Int32) then (0 : Int64) else ((0 : Int64) + q2)) + (if ((((p5.toUInt32 >>> ((6 : Int32) &&& 31).toUInt32).toInt32) &&& (63 : Int32)) &&& (16 : Int32)) = (0 : Int32) then (0 : Int64) else ((0 : Int64) + q3))) ((if ((p5 &&& (63 : Int32)) &&& (32 : Int32)) = (0 : Int32) then (if ((p5 &&& (63 : Int32)) &&& (16 : Int32)) = (0 : Int32) then (0 : Int64) else ((0 : Int64) + (1 : Int64))) else ((if ((p5 &&& (63 : Int32)) &&& (16 : Int32)) = (0 : Int32) then (0 : Int64) else ((0 : Int64) + (1 : Int64))) + (1 : Int64))) + (if ((((p5.toUInt32 >>> ((6 : Int32) &&& 31).toUInt32).toInt32) &&& (63 : Int32)) &&& (32 : Int32)) = (0 : Int32) then (if ((((p5.toUInt32 >>> ((6 : Int32) &&& 31).toUInt32).toInt32) &&& (63 : Int32)) &&& (16 : Int32)) = (0 : Int32) then (0 : Int64) else ((0 : Int64) + (1 : Int64))) else ((if ((((p5.toUInt32 >>> ((6 : Int32) &&& 31).toUInt32).toInt32) &&& (63 : Int32)) &&& (16 : Int32)) = (0 : Int32) then (0 : Int64) else ((0 : Int64) + (1 : Int64))) + (1 : Int64)))) ((if ((p5 &&& (63 : Int32)) &&& (32 : Int32)) = (0 : Int32) then (if ((p5 &&& (63 : Int32)) &&& (16 : Int32)) = (0 : Int32) then (0 : Int64) else ((0 : Int64) + q2)) else ((if ((p5 &&& (63 : Int32)) &&& (16 : Int32)) = (0 : Int32) then (0 : Int64) else ((0 : Int64) + q2)) + q3)) + (if ((((p5.toUInt32 >>> ((6 : Int32) &&& 31).toUInt32).toInt32) &&& (63 : Int32)) &&& (32 : Int32)) = (0 : Int32) then (if ((((p5.toUInt32 >>> ((6 : Int32) &&& 31).toUInt32).toInt32) &&& (63 : Int32)) &&& (16 : Int32)) = (0 : Int32) then (0 : Int64) else ((0 : Int64) + q3)) else ((if ((((p5.toUInt32 >>> ((6 : Int32) &&& 31).toUInt32).toInt32) &&& (63 : Int32)) &&& (16 : Int32)) = (0 : Int32) then (0 : Int64) else ((0 : Int64) + q3)) + q4))) ((if ((p5 &&& (63 : Int32)) &&& (8 : Int32)) = (0 : Int32) then (0 : Int64) else ((0 : Int64) + (1 : Int64))) + (if ((((p5.toUInt32 >>> ((6 : Int32) &&& 31).toUInt32).toInt32) &&& (63 : Int32)) &&& (8 : Int32)) = (0 : Int32) then (0 : Int64) else ((0 : Int64) + (1 : Int64)))) T357.heap n0 Z369 O369 f357_1 f357_2 f357_3 f357_4 f357_5 f357_6 f357_7 f357_8 f357_9 f357_10) hZ (W 47 rfl) (W 2 rfl) (by decide) (by decide)) q370a q370c (g := (mkF m 74 #[.val (.long q0), .second, .val (.long q1), .second, .val (.long q2), .second, .val (.long q3), .second, .val (.long q4), .second, .val (.int p5), .val (.int (p5 &&& (63 : Int32))), .val (.int (((p5.toUInt32 >>> ((6 : Int32) &&& 31).toUInt32).toInt32) &&& (63 : Int32))), .val (.ref b325), .val (.ref b328), .unset, .unset, .unset, .unset, .unset, .unset, .unset, .unset, .unset, .unset, .unset, .unset, .unset, .unset, .unset, .unset, .unset, .unset, .unset, .unset, .unset] [(.int (0 : Int32)), (.int (0 : Int32)), (.int (0 : Int32)), (.ref b325)])) rfl (by rw [hml]; rfl) (Steps.refl _) (argsL := [(.int (0 : Int32)), (.int (0 : Int32)), (.int (0 : Int32))]) (rest := []) (lenOf pd__III_Lcom_example_cistern_cistern_PoolState_ rfl) rfl (by show 2 * 0 + _ ≤ _; exact Nat.le_of_eq rfl) (hb hby at_74) (fun _ _ => ⟨rfl, rfl, (by decide : 2 + 1 ≤ _), (by decide : 20 + 12 ≤ _)⟩)
  dsimp only [Pt.U, Pt.locs, Pt.cells, Pt.slots] at X370 l370 y370 z370 st370 hQ370
  subst l370 y370 z370
  obtain ⟨b_370, rfl, N370q, K370, f370_0, f370_1, f370_2, f370_3, f370_4, f370_5, f370_6, f370_7, f370_8, f370_9, f370_10, f370_11, f370_12, f370_13⟩ := hQ370
  have N370 := Fr.app N357 N370q
  have Z371 : n0 ≤ T370.heap.size := Nat.le_trans Z369 K370.1
  have K0_371 : Keep h0 T370.heap [] := K0_369.trans K370 all0
  have O371 : Old Z n0 T370.heap := O369.keep K370 all0
  have lo_b_370 : T357.heap.size ≤ b_370 := f370_0
  have g_b_370 : n0 ≤ b_370 := Nat.le_trans Z369 lo_b_370
  have l0_b_370 : h0.size ≤ b_370 := Nat.le_trans K0_369.1 lo_b_370
  obtain ⟨v16_372, v18_372, v20_372, v22_372, T372, L372, X372, N372, K372, f372_0, f372_1, f372_2, f372_3, st372⟩ := sgla Z a0 ns hG q0 q1 q2 q3 q4 p5 (p5 &&& (63 : Int32)) (((p5.toUInt32 >>> ((6 : Int32) &&& 31).toUInt32).toInt32) &&& (63 : Int32)) b325 b328 b_370 3 32 T370.heap n0 Z371 O371 (by decide) (by decide) X370 hx hZ hby hml hown rfl N370
  have Z373 : n0 ≤ T372.heap.size := Nat.le_trans Z371 K372.1
  have K0_373 : Keep h0 T372.heap [] := K0_371.trans K372 all0
  have O373 : Old Z n0 T372.heap := O371.keep K372 all0
  obtain ⟨v24_374, v26_374, v28_374, v30_374, T374, L374, X374, N374, K374, f374_0, f374_1, f374_2, f374_3, st374⟩ := sglb Z a0 ns hG q0 q1 q2 q3 q4 p5 (p5 &&& (63 : Int32)) (((p5.toUInt32 >>> ((6 : Int32) &&& 31).toUInt32).toInt32) &&& (63 : Int32)) b325 b328 b_370 3 32 v16_372 v18_372 v20_372 v22_372 T372.heap n0 Z373 O373 (by decide) (by decide) X372 hx hZ hby hml hown rfl N372
  have Z375 : n0 ≤ T374.heap.size := Nat.le_trans Z373 K374.1
  have K0_375 : Keep h0 T374.heap [] := K0_373.trans K374 all0
  have O375 : Old Z n0 T374.heap := O373.keep K374 all0
  obtain ⟨v32_376, v34_376, T376, L376, X376, N376, K376, f376_0, f376_1, st376⟩ := sglc Z a0 ns hG q0 q1 q2 q3 q4 p5 (p5 &&& (63 : Int32)) (((p5.toUInt32 >>> ((6 : Int32) &&& 31).toUInt32).toInt32) &&& (63 : Int32)) b325 b328 b_370 3 32 v16_372 v18_372 v20_372 v22_372 v24_374 v26_374 v28_374 v30_374 T374.heap n0 Z375 O375 (by decide) (by decide) X374 hx hZ hby hml hown rfl N374
  have Z377 : n0 ≤ T376.heap.size := Nat.le_trans Z375 K376.1
  have K0_377 : Keep h0 T376.heap [] := K0_375.trans K376 all0
  have O377 : Old Z n0 T376.heap := O375.keep K376 all0
  have f379 := (((f370_2.keep K372 nin0).keep K374 nin0).keep K376 nin0)
  have f380 := (((f370_1.keep K372).keep K374).keep K376)
  obtain ⟨cq378, kq378, q378a, q378b, q378c⟩ := isOf hZ rfl f380
  -- pc 250: com/example/cistern/cistern/PoolState.getRequestCount
  obtain ⟨_, _, ⟨T378, L378, k378, n378⟩, -, X378, ⟨Lc378, hQ378, l378, y378, z378⟩, st378⟩ := X376.virtualBack hx (y := y5) (z := y5) hown (mvT hZ (W 110 rfl)) (mvT hZ (W 111 rfl)) (notFace_of_selects (args := #[]) (mvT hZ (W 113 rfl))) (mvT hZ (W 113 rfl)) (mvT hZ (W 112 rfl)) (by decide) (backOf (W := 0) (rmG_requestCount l Z a0 ns hG [] b_370 ((if ((p5 &&& (63 : Int32)) &&& (1 : Int32)) = (0 : Int32) then (0 : Int64) else ((0 : Int64) + (1 : Int64))) + (if ((((p5.toUInt32 >>> ((6 : Int32) &&& 31).toUInt32).toInt32) &&& (63 : Int32)) &&& (1 : Int32)) = (0 : Int32) then (0 : Int64) else ((0 : Int64) + (1 : Int64)))) T376.heap n0 Z377 O377 f379) hZ (W 114 rfl) (W 50 rfl) (by decide) (by decide)) q378a q378c (g := (mkF m 250 #[.val (.long q0), .second, .val (.long q1), .second, .val (.long q2), .second, .val (.long q3), .second, .val (.long q4), .second, .val (.int p5), .val (.int (p5 &&& (63 : Int32))), .val (.int (((p5.toUInt32 >>> ((6 : Int32) &&& 31).toUInt32).toInt32) &&& (63 : Int32))), .val (.ref b325), .val (.ref b328), .val (.ref b_370), .val (.long v16_372), .second, .val (.long v18_372), .second, .val (.long v20_372), .second, .val (.long v22_372), .second, .val (.long v24_374), .second, .val (.long v26_374), .second, .val (.long v28_374), .second, .val (.long v30_374), .second, .val (.long v32_376), .second, .val (.long v34_376), .second] [(.ref b_370)])) rfl (by rw [hml]; rfl) (Steps.refl _) (argsL := []) (rest := []) (lenOf pd___J rfl) rfl (by show 2 * 0 + _ ≤ _; exact Nat.le_of_eq rfl) (hb hby at_250) (fun _ _ => ⟨rfl, rfl, (by decide : 3 + 0 ≤ _), (by decide : 32 + 0 ≤ _)⟩)
  dsimp only [Pt.U, Pt.locs, Pt.cells, Pt.slots] at X378 l378 y378 z378 st378 hQ378
  subst l378 y378 z378
  obtain ⟨rfl, N378q, eq378⟩ := hQ378
  have N378 := Fr.app N376 N378q
  have f382 := (((f370_3.keep K372 nin0).keep K374 nin0).keep K376 nin0)
  obtain ⟨cq381, kq381, q381a, q381b, q381c⟩ := isOf hZ eq378 f380
  -- pc 261: com/example/cistern/cistern/PoolState.getAverageRequestTime
  obtain ⟨_, _, ⟨T381, L381, k381, n381⟩, -, X381, ⟨Lc381, hQ381, l381, y381, z381⟩, st381⟩ := X378.virtualBack hx (y := y6) (z := y6) hown (mvT hZ (W 115 rfl)) (mvT hZ (W 116 rfl)) (notFace_of_selects (args := #[]) (mvT hZ (W 118 rfl))) (mvT hZ (W 118 rfl)) (mvT hZ (W 117 rfl)) (by decide) (backOf (W := 0) (rmG_averageRequestTime l Z a0 ns hG [] b_370 (own_avg ((if ((p5 &&& (63 : Int32)) &&& (1 : Int32)) = (0 : Int32) then (0 : Int64) else ((0 : Int64) + q0)) + (if ((((p5.toUInt32 >>> ((6 : Int32) &&& 31).toUInt32).toInt32) &&& (63 : Int32)) &&& (1 : Int32)) = (0 : Int32) then (0 : Int64) else ((0 : Int64) + q1))) ((if ((p5 &&& (63 : Int32)) &&& (1 : Int32)) = (0 : Int32) then (0 : Int64) else ((0 : Int64) + (1 : Int64))) + (if ((((p5.toUInt32 >>> ((6 : Int32) &&& 31).toUInt32).toInt32) &&& (63 : Int32)) &&& (1 : Int32)) = (0 : Int32) then (0 : Int64) else ((0 : Int64) + (1 : Int64))))) T376.heap n0 Z377 O377 f382) hZ (W 119 rfl) (W 50 rfl) (by decide) (by decide)) q381a q381c (g := (mkF m 261 #[.val (.long q0), .second, .val (.long q1), .second, .val (.long q2), .second, .val (.long q3), .second, .val (.long q4), .second, .val (.int p5), .val (.int (p5 &&& (63 : Int32))), .val (.int (((p5.toUInt32 >>> ((6 : Int32) &&& 31).toUInt32).toInt32) &&& (63 : Int32))), .val (.ref b325), .val (.ref b328), .val (.ref b_370), .val (.long v16_372), .second, .val (.long v18_372), .second, .val (.long v20_372), .second, .val (.long v22_372), .second, .val (.long v24_374), .second, .val (.long v26_374), .second, .val (.long v28_374), .second, .val (.long v30_374), .second, .val (.long v32_376), .second, .val (.long v34_376), .second] [(.ref b_370)])) rfl (by rw [hml]; rfl) (Steps.refl _) (argsL := []) (rest := []) (lenOf pd___J rfl) rfl (by show 2 * 0 + _ ≤ _; exact Nat.le_of_eq rfl) (hb hby at_261) (fun _ _ => ⟨rfl, eq378, (by decide : 3 + 0 ≤ _), (by decide : 32 + 0 ≤ _)⟩)
  dsimp only [Pt.U, Pt.locs, Pt.cells, Pt.slots] at X381 l381 y381 z381 st381 hQ381
  subst l381 y381 z381
  obtain ⟨rfl, N381q, eq381⟩ := hQ381
  have N381 := Fr.app N378 N381q
  -- pc 268: com/example/cistern/cistern/CountersAddPinLaw.avg
  obtain ⟨_, _, ⟨T383, L383, k383, n383⟩, -, X383, ⟨Lc383, hQ383, l383, y383, z383⟩, st383⟩ := Jvm.LawKit.callS X381 hx (y := y23) hown (mvT hZ (W 120 rfl)) (mvT hZ (W 121 rfl)) (mvT hZ (W 11 rfl)) (mvT hZ (W 122 rfl)) (by decide) (backOf (W := 2) (rmlavg l Z a0 ns hG [] v18_372 v16_372 T376.heap n0 Z377 O377) hZ (W 122 rfl) (W 11 rfl) (by decide) (by decide)) (g := (mkF m 268 #[.val (.long q0), .second, .val (.long q1), .second, .val (.long q2), .second, .val (.long q3), .second, .val (.long q4), .second, .val (.int p5), .val (.int (p5 &&& (63 : Int32))), .val (.int (((p5.toUInt32 >>> ((6 : Int32) &&& 31).toUInt32).toInt32) &&& (63 : Int32))), .val (.ref b325), .val (.ref b328), .val (.ref b_370), .val (.long v16_372), .second, .val (.long v18_372), .second, .val (.long v20_372), .second, .val (.long v22_372), .second, .val (.long v24_374), .second, .val (.long v26_374), .second, .val (.long v28_374), .second, .val (.long v30_374), .second, .val (.long v32_376), .second, .val (.long v34_376), .second] [(.long v16_372), (.long v18_372), (.long (own_avg ((if ((p5 &&& (63 : Int32)) &&& (1 : Int32)) = (0 : Int32) then (0 : Int64) else ((0 : Int64) + q0)) + (if ((((p5.toUInt32 >>> ((6 : Int32) &&& 31).toUInt32).toInt32) &&& (63 : Int32)) &&& (1 : Int32)) = (0 : Int32) then (0 : Int64) else ((0 : Int64) + q1))) ((if ((p5 &&& (63 : Int32)) &&& (1 : Int32)) = (0 : Int32) then (0 : Int64) else ((0 : Int64) + (1 : Int64))) + (if ((((p5.toUInt32 >>> ((6 : Int32) &&& 31).toUInt32).toInt32) &&& (63 : Int32)) &&& (1 : Int32)) = (0 : Int32) then (0 : Int64) else ((0 : Int64) + (1 : Int64))))))])) rfl (by rw [hml]; rfl) (argsL := [(.long v18_372), (.long v16_372)]) (rest := [(.long (own_avg ((if ((p5 &&& (63 : Int32)) &&& (1 : Int32)) = (0 : Int32) then (0 : Int64) else ((0 : Int64) + q0)) + (if ((((p5.toUInt32 >>> ((6 : Int32) &&& 31).toUInt32).toInt32) &&& (63 : Int32)) &&& (1 : Int32)) = (0 : Int32) then (0 : Int64) else ((0 : Int64) + q1))) ((if ((p5 &&& (63 : Int32)) &&& (1 : Int32)) = (0 : Int32) then (0 : Int64) else ((0 : Int64) + (1 : Int64))) + (if ((((p5.toUInt32 >>> ((6 : Int32) &&& 31).toUInt32).toInt32) &&& (63 : Int32)) &&& (1 : Int32)) = (0 : Int32) then (0 : Int64) else ((0 : Int64) + (1 : Int64))))))]) (lenOf pd__JJ_J rfl) rfl (by show 2 * 0 + _ ≤ _; exact Nat.le_of_eq rfl) (hb hby at_268) (fun _ _ => ⟨rfl, eq381, (by decide : 3 + 0 ≤ _), (by decide : 32 + 0 ≤ _)⟩)
  dsimp only [Pt.U, Pt.locs, Pt.cells, Pt.slots] at X383 l383 y383 z383 st383 hQ383
  subst l383 y383 z383
  obtain ⟨rfl, N383q, eq383⟩ := hQ383
  have N383 := Fr.app N381 N383q
  have f385 := (((f370_4.keep K372 nin0).keep K374 nin0).keep K376 nin0)
  obtain ⟨cq384, kq384, q384a, q384b, q384c⟩ := isOf hZ eq383 f380
  -- pc 277: com/example/cistern/cistern/PoolState.getHadToWaitCount
  obtain ⟨_, _, ⟨T384, L384, k384, n384⟩, -, X384, ⟨Lc384, hQ384, l384, y384, z384⟩, st384⟩ := X383.virtualBack hx (y := y7) (z := y7) hown (mvT hZ (W 123 rfl)) (mvT hZ (W 124 rfl)) (notFace_of_selects (args := #[]) (mvT hZ (W 126 rfl))) (mvT hZ (W 126 rfl)) (mvT hZ (W 125 rfl)) (by decide) (backOf (W := 0) (rmG_hadToWaitCount l Z a0 ns hG [] b_370 ((if ((p5 &&& (63 : Int32)) &&& (2 : Int32)) = (0 : Int32) then (0 : Int64) else ((0 : Int64) + (1 : Int64))) + (if ((((p5.toUInt32 >>> ((6 : Int32) &&& 31).toUInt32).toInt32) &&& (63 : Int32)) &&& (2 : Int32)) = (0 : Int32) then (0 : Int64) else ((0 : Int64) + (1 : Int64)))) T376.heap n0 Z377 O377 f385) hZ (W 127 rfl) (W 50 rfl) (by decide) (by decide)) q384a q384c (g := (mkF m 277 #[.val (.long q0), .second, .val (.long q1), .second, .val (.long q2), .second, .val (.long q3), .second, .val (.long q4), .second, .val (.int p5), .val (.int (p5 &&& (63 : Int32))), .val (.int (((p5.toUInt32 >>> ((6 : Int32) &&& 31).toUInt32).toInt32) &&& (63 : Int32))), .val (.ref b325), .val (.ref b328), .val (.ref b_370), .val (.long v16_372), .second, .val (.long v18_372), .second, .val (.long v20_372), .second, .val (.long v22_372), .second, .val (.long v24_374), .second, .val (.long v26_374), .second, .val (.long v28_374), .second, .val (.long v30_374), .second, .val (.long v32_376), .second, .val (.long v34_376), .second] [(.ref b_370)])) rfl (by rw [hml]; rfl) (Steps.refl _) (argsL := []) (rest := []) (lenOf pd___J rfl) rfl (by show 2 * 0 + _ ≤ _; exact Nat.le_of_eq rfl) (hb hby at_277) (fun _ _ => ⟨rfl, eq383, (by decide : 3 + 0 ≤ _), (by decide : 32 + 0 ≤ _)⟩)
  dsimp only [Pt.U, Pt.locs, Pt.cells, Pt.slots] at X384 l384 y384 z384 st384 hQ384
  subst l384 y384 z384
  obtain ⟨rfl, N384q, eq384⟩ := hQ384
  have N384 := Fr.app N383 N384q
  have f387 := (((f370_5.keep K372 nin0).keep K374 nin0).keep K376 nin0)
  obtain ⟨cq386, kq386, q386a, q386b, q386c⟩ := isOf hZ eq384 f380
  -- pc 288: com/example/cistern/cistern/PoolState.getAverageWaitTime
  obtain ⟨_, _, ⟨T386, L386, k386, n386⟩, -, X386, ⟨Lc386, hQ386, l386, y386, z386⟩, st386⟩ := X384.virtualBack hx (y := y8) (z := y8) hown (mvT hZ (W 128 rfl)) (mvT hZ (W 129 rfl)) (notFace_of_selects (args := #[]) (mvT hZ (W 131 rfl))) (mvT hZ (W 131 rfl)) (mvT hZ (W 130 rfl)) (by decide) (backOf (W := 0) (rmG_averageWaitTime l Z a0 ns hG [] b_370 (own_avg ((if ((p5 &&& (63 : Int32)) &&& (2 : Int32)) = (0 : Int32) then (0 : Int64) else ((0 : Int64) + q1)) + (if ((((p5.toUInt32 >>> ((6 : Int32) &&& 31).toUInt32).toInt32) &&& (63 : Int32)) &&& (2 : Int32)) = (0 : Int32) then (0 : Int64) else ((0 : Int64) + q2))) ((if ((p5 &&& (63 : Int32)) &&& (2 : Int32)) = (0 : Int32) then (0 : Int64) else ((0 : Int64) + (1 : Int64))) + (if ((((p5.toUInt32 >>> ((6 : Int32) &&& 31).toUInt32).toInt32) &&& (63 : Int32)) &&& (2 : Int32)) = (0 : Int32) then (0 : Int64) else ((0 : Int64) + (1 : Int64))))) T376.heap n0 Z377 O377 f387) hZ (W 132 rfl) (W 50 rfl) (by decide) (by decide)) q386a q386c (g := (mkF m 288 #[.val (.long q0), .second, .val (.long q1), .second, .val (.long q2), .second, .val (.long q3), .second, .val (.long q4), .second, .val (.int p5), .val (.int (p5 &&& (63 : Int32))), .val (.int (((p5.toUInt32 >>> ((6 : Int32) &&& 31).toUInt32).toInt32) &&& (63 : Int32))), .val (.ref b325), .val (.ref b328), .val (.ref b_370), .val (.long v16_372), .second, .val (.long v18_372), .second, .val (.long v20_372), .second, .val (.long v22_372), .second, .val (.long v24_374), .second, .val (.long v26_374), .second, .val (.long v28_374), .second, .val (.long v30_374), .second, .val (.long v32_376), .second, .val (.long v34_376), .second] [(.ref b_370)])) rfl (by rw [hml]; rfl) (Steps.refl _) (argsL := []) (rest := []) (lenOf pd___J rfl) rfl (by show 2 * 0 + _ ≤ _; exact Nat.le_of_eq rfl) (hb hby at_288) (fun _ _ => ⟨rfl, eq384, (by decide : 3 + 0 ≤ _), (by decide : 32 + 0 ≤ _)⟩)
  dsimp only [Pt.U, Pt.locs, Pt.cells, Pt.slots] at X386 l386 y386 z386 st386 hQ386
  subst l386 y386 z386
  obtain ⟨rfl, N386q, eq386⟩ := hQ386
  have N386 := Fr.app N384 N386q
  -- pc 295: com/example/cistern/cistern/CountersAddPinLaw.avg
  obtain ⟨_, _, ⟨T388, L388, k388, n388⟩, -, X388, ⟨Lc388, hQ388, l388, y388, z388⟩, st388⟩ := Jvm.LawKit.callS X386 hx (y := y23) hown (mvT hZ (W 120 rfl)) (mvT hZ (W 121 rfl)) (mvT hZ (W 11 rfl)) (mvT hZ (W 122 rfl)) (by decide) (backOf (W := 2) (rmlavg l Z a0 ns hG [] v22_372 v20_372 T376.heap n0 Z377 O377) hZ (W 122 rfl) (W 11 rfl) (by decide) (by decide)) (g := (mkF m 295 #[.val (.long q0), .second, .val (.long q1), .second, .val (.long q2), .second, .val (.long q3), .second, .val (.long q4), .second, .val (.int p5), .val (.int (p5 &&& (63 : Int32))), .val (.int (((p5.toUInt32 >>> ((6 : Int32) &&& 31).toUInt32).toInt32) &&& (63 : Int32))), .val (.ref b325), .val (.ref b328), .val (.ref b_370), .val (.long v16_372), .second, .val (.long v18_372), .second, .val (.long v20_372), .second, .val (.long v22_372), .second, .val (.long v24_374), .second, .val (.long v26_374), .second, .val (.long v28_374), .second, .val (.long v30_374), .second, .val (.long v32_376), .second, .val (.long v34_376), .second] [(.long v20_372), (.long v22_372), (.long (own_avg ((if ((p5 &&& (63 : Int32)) &&& (2 : Int32)) = (0 : Int32) then (0 : Int64) else ((0 : Int64) + q1)) + (if ((((p5.toUInt32 >>> ((6 : Int32) &&& 31).toUInt32).toInt32) &&& (63 : Int32)) &&& (2 : Int32)) = (0 : Int32) then (0 : Int64) else ((0 : Int64) + q2))) ((if ((p5 &&& (63 : Int32)) &&& (2 : Int32)) = (0 : Int32) then (0 : Int64) else ((0 : Int64) + (1 : Int64))) + (if ((((p5.toUInt32 >>> ((6 : Int32) &&& 31).toUInt32).toInt32) &&& (63 : Int32)) &&& (2 : Int32)) = (0 : Int32) then (0 : Int64) else ((0 : Int64) + (1 : Int64))))))])) rfl (by rw [hml]; rfl) (argsL := [(.long v22_372), (.long v20_372)]) (rest := [(.long (own_avg ((if ((p5 &&& (63 : Int32)) &&& (2 : Int32)) = (0 : Int32) then (0 : Int64) else ((0 : Int64) + q1)) + (if ((((p5.toUInt32 >>> ((6 : Int32) &&& 31).toUInt32).toInt32) &&& (63 : Int32)) &&& (2 : Int32)) = (0 : Int32) then (0 : Int64) else ((0 : Int64) + q2))) ((if ((p5 &&& (63 : Int32)) &&& (2 : Int32)) = (0 : Int32) then (0 : Int64) else ((0 : Int64) + (1 : Int64))) + (if ((((p5.toUInt32 >>> ((6 : Int32) &&& 31).toUInt32).toInt32) &&& (63 : Int32)) &&& (2 : Int32)) = (0 : Int32) then (0 : Int64) else ((0 : Int64) + (1 : Int64))))))]) (lenOf pd__JJ_J rfl) rfl (by show 2 * 0 + _ ≤ _; exact Nat.le_of_eq rfl) (hb hby at_295) (fun _ _ => ⟨rfl, eq386, (by decide : 3 + 0 ≤ _), (by decide : 32 + 0 ≤ _)⟩)
  dsimp only [Pt.U, Pt.locs, Pt.cells, Pt.slots] at X388 l388 y388 z388 st388 hQ388
  subst l388 y388 z388
  obtain ⟨rfl, N388q, eq388⟩ := hQ388
  have N388 := Fr.app N386 N388q
  have f390 := (((f370_6.keep K372 nin0).keep K374 nin0).keep K376 nin0)
  obtain ⟨cq389, kq389, q389a, q389b, q389c⟩ := isOf hZ eq388 f380
  -- pc 304: com/example/cistern/cistern/PoolState.getBadConnectionCount
  obtain ⟨_, _, ⟨T389, L389, k389, n389⟩, -, X389, ⟨Lc389, hQ389, l389, y389, z389⟩, st389⟩ := X388.virtualBack hx (y := y9) (z := y9) hown (mvT hZ (W 134 rfl)) (mvT hZ (W 135 rfl)) (notFace_of_selects (args := #[]) (mvT hZ (W 137 rfl))) (mvT hZ (W 137 rfl)) (mvT hZ (W 136 rfl)) (by decide) (backOf (W := 0) (rmG_badConnectionCount l Z a0 ns hG [] b_370 ((if ((p5 &&& (63 : Int32)) &&& (4 : Int32)) = (0 : Int32) then (0 : Int64) else ((0 : Int64) + (1 : Int64))) + (if ((((p5.toUInt32 >>> ((6 : Int32) &&& 31).toUInt32).toInt32) &&& (63 : Int32)) &&& (4 : Int32)) = (0 : Int32) then (0 : Int64) else ((0 : Int64) + (1 : Int64)))) T376.heap n0 Z377 O377 f390) hZ (W 138 rfl) (W 50 rfl) (by decide) (by decide)) q389a q389c (g := (mkF m 304 #[.val (.long q0), .second, .val (.long q1), .second, .val (.long q2), .second, .val (.long q3), .second, .val (.long q4), .second, .val (.int p5), .val (.int (p5 &&& (63 : Int32))), .val (.int (((p5.toUInt32 >>> ((6 : Int32) &&& 31).toUInt32).toInt32) &&& (63 : Int32))), .val (.ref b325), .val (.ref b328), .val (.ref b_370), .val (.long v16_372), .second, .val (.long v18_372), .second, .val (.long v20_372), .second, .val (.long v22_372), .second, .val (.long v24_374), .second, .val (.long v26_374), .second, .val (.long v28_374), .second, .val (.long v30_374), .second, .val (.long v32_376), .second, .val (.long v34_376), .second] [(.ref b_370)])) rfl (by rw [hml]; rfl) (Steps.refl _) (argsL := []) (rest := []) (lenOf pd___J rfl) rfl (by show 2 * 0 + _ ≤ _; exact Nat.le_of_eq rfl) (hb hby at_304) (fun _ _ => ⟨rfl, eq388, (by decide : 3 + 0 ≤ _), (by decide : 32 + 0 ≤ _)⟩)
  dsimp only [Pt.U, Pt.locs, Pt.cells, Pt.slots] at X389 l389 y389 z389 st389 hQ389
  subst l389 y389 z389
  obtain ⟨rfl, N389q, eq389⟩ := hQ389
  have N389 := Fr.app N388 N389q
  have f392 := (((f370_7.keep K372 nin0).keep K374 nin0).keep K376 nin0)
  obtain ⟨cq391, kq391, q391a, q391b, q391c⟩ := isOf hZ eq389 f380
  -- pc 315: com/example/cistern/cistern/PoolState.getClaimedOverdueConnectionCount
  obtain ⟨_, _, ⟨T391, L391, k391, n391⟩, -, X391, ⟨Lc391, hQ391, l391, y391, z391⟩, st391⟩ := X389.virtualBack hx (y := y10) (z := y10) hown (mvT hZ (W 139 rfl)) (mvT hZ (W 140 rfl)) (notFace_of_selects (args := #[]) (mvT hZ (W 142 rfl))) (mvT hZ (W 142 rfl)) (mvT hZ (W 141 rfl)) (by decide) (backOf (W := 0) (rmG_claimedOverdueConnectionCount l Z a0 ns hG [] b_370 ((if ((p5 &&& (63 : Int32)) &&& (16 : Int32)) = (0 : Int32) then (0 : Int64) else ((0 : Int64) + (1 : Int64))) + (if ((((p5.toUInt32 >>> ((6 : Int32) &&& 31).toUInt32).toInt32) &&& (63 : Int32)) &&& (16 : Int32)) = (0 : Int32) then (0 : Int64) else ((0 : Int64) + (1 : Int64)))) T376.heap n0 Z377 O377 f392) hZ (W 143 rfl) (W 50 rfl) (by decide) (by decide)) q391a q391c (g := (mkF m 315 #[.val (.long q0), .second, .val (.long q1), .second, .val (.long q2), .second, .val (.long q3), .second, .val (.long q4), .second, .val (.int p5), .val (.int (p5 &&& (63 : Int32))), .val (.int (((p5.toUInt32 >>> ((6 : Int32) &&& 31).toUInt32).toInt32) &&& (63 : Int32))), .val (.ref b325), .val (.ref b328), .val (.ref b_370), .val (.long v16_372), .second, .val (.long v18_372), .second, .val (.long v20_372), .second, .val (.long v22_372), .second, .val (.long v24_374), .second, .val (.long v26_374), .second, .val (.long v28_374), .second, .val (.long v30_374), .second, .val (.long v32_376), .second, .val (.long v34_376), .second] [(.ref b_370)])) rfl (by rw [hml]; rfl) (Steps.refl _) (argsL := []) (rest := []) (lenOf pd___J rfl) rfl (by show 2 * 0 + _ ≤ _; exact Nat.le_of_eq rfl) (hb hby at_315) (fun _ _ => ⟨rfl, eq389, (by decide : 3 + 0 ≤ _), (by decide : 32 + 0 ≤ _)⟩)
  dsimp only [Pt.U, Pt.locs, Pt.cells, Pt.slots] at X391 l391 y391 z391 st391 hQ391
  subst l391 y391 z391
  obtain ⟨rfl, N391q, eq391⟩ := hQ391
  have N391 := Fr.app N389 N391q
  have f394 := (((f370_8.keep K372 nin0).keep K374 nin0).keep K376 nin0)
  obtain ⟨cq393, kq393, q393a, q393b, q393c⟩ := isOf hZ eq391 f380
  -- pc 326: com/example/cistern/cistern/PoolState.getAverageOverdueCheckoutTime
  obtain ⟨_, _, ⟨T393, L393, k393, n393⟩, -, X393, ⟨Lc393, hQ393, l393, y393, z393⟩, st393⟩ := X391.virtualBack hx (y := y11) (z := y11) hown (mvT hZ (W 144 rfl)) (mvT hZ (W 145 rfl)) (notFace_of_selects (args := #[]) (mvT hZ (W 147 rfl))) (mvT hZ (W 147 rfl)) (mvT hZ (W 146 rfl)) (by decide) (backOf (W := 0) (rmG_averageOverdueCheckoutTime l Z a0 ns hG [] b_370 (own_avg ((if ((p5 &&& (63 : Int32)) &&& (16 : Int32)) = (0 : Int32) then (0 : Int64) else ((0 : Int64) + q2)) + (if ((((p5.toUInt32 >>> ((6 : Int32) &&& 31).toUInt32).toInt32) &&& (63 : Int32)) &&& (16 : Int32)) = (0 : Int32) then (0 : Int64) else ((0 : Int64) + q3))) ((if ((p5 &&& (63 : Int32)) &&& (16 : Int32)) = (0 : Int32) then (0 : Int64) else ((0 : Int64) + (1 : Int64))) + (if ((((p5.toUInt32 >>> ((6 : Int32) &&& 31).toUInt32).toInt32) &&& (63 : Int32)) &&& (16 : Int32)) = (0 : Int32) then (0 : Int64) else ((0 : Int64) + (1 : Int64))))) T376.heap n0 Z377 O377 f394) hZ (W 148 rfl) (W 50 rfl) (by decide) (by decide)) q393a q393c (g := (mkF m 326 #[.val (.long q0), .second, .val (.long q1), .second, .val (.long q2), .second, .val (.long q3), .second, .val (.long q4), .second, .val (.int p5), .val (.int (p5 &&& (63 : Int32))), .val (.int (((p5.toUInt32 >>> ((6 : Int32) &&& 31).toUInt32).toInt32) &&& (63 : Int32))), .val (.ref b325), .val (.ref b328), .val (.ref b_370), .val (.long v16_372), .second, .val (.long v18_372), .second, .val (.long v20_372), .second, .val (.long v22_372), .second, .val (.long v24_374), .second, .val (.long v26_374), .second, .val (.long v28_374), .second, .val (.long v30_374), .second, .val (.long v32_376), .second, .val (.long v34_376), .second] [(.ref b_370)])) rfl (by rw [hml]; rfl) (Steps.refl _) (argsL := []) (rest := []) (lenOf pd___J rfl) rfl (by show 2 * 0 + _ ≤ _; exact Nat.le_of_eq rfl) (hb hby at_326) (fun _ _ => ⟨rfl, eq391, (by decide : 3 + 0 ≤ _), (by decide : 32 + 0 ≤ _)⟩)
  dsimp only [Pt.U, Pt.locs, Pt.cells, Pt.slots] at X393 l393 y393 z393 st393 hQ393
  subst l393 y393 z393
  obtain ⟨rfl, N393q, eq393⟩ := hQ393
  have N393 := Fr.app N391 N393q
  -- pc 333: com/example/cistern/cistern/CountersAddPinLaw.avg
  obtain ⟨_, _, ⟨T395, L395, k395, n395⟩, -, X395, ⟨Lc395, hQ395, l395, y395, z395⟩, st395⟩ := Jvm.LawKit.callS X393 hx (y := y23) hown (mvT hZ (W 120 rfl)) (mvT hZ (W 121 rfl)) (mvT hZ (W 11 rfl)) (mvT hZ (W 122 rfl)) (by decide) (backOf (W := 2) (rmlavg l Z a0 ns hG [] v30_374 v28_374 T376.heap n0 Z377 O377) hZ (W 122 rfl) (W 11 rfl) (by decide) (by decide)) (g := (mkF m 333 #[.val (.long q0), .second, .val (.long q1), .second, .val (.long q2), .second, .val (.long q3), .second, .val (.long q4), .second, .val (.int p5), .val (.int (p5 &&& (63 : Int32))), .val (.int (((p5.toUInt32 >>> ((6 : Int32) &&& 31).toUInt32).toInt32) &&& (63 : Int32))), .val (.ref b325), .val (.ref b328), .val (.ref b_370), .val (.long v16_372), .second, .val (.long v18_372), .second, .val (.long v20_372), .second, .val (.long v22_372), .second, .val (.long v24_374), .second, .val (.long v26_374), .second, .val (.long v28_374), .second, .val (.long v30_374), .second, .val (.long v32_376), .second, .val (.long v34_376), .second] [(.long v28_374), (.long v30_374), (.long (own_avg ((if ((p5 &&& (63 : Int32)) &&& (16 : Int32)) = (0 : Int32) then (0 : Int64) else ((0 : Int64) + q2)) + (if ((((p5.toUInt32 >>> ((6 : Int32) &&& 31).toUInt32).toInt32) &&& (63 : Int32)) &&& (16 : Int32)) = (0 : Int32) then (0 : Int64) else ((0 : Int64) + q3))) ((if ((p5 &&& (63 : Int32)) &&& (16 : Int32)) = (0 : Int32) then (0 : Int64) else ((0 : Int64) + (1 : Int64))) + (if ((((p5.toUInt32 >>> ((6 : Int32) &&& 31).toUInt32).toInt32) &&& (63 : Int32)) &&& (16 : Int32)) = (0 : Int32) then (0 : Int64) else ((0 : Int64) + (1 : Int64))))))])) rfl (by rw [hml]; rfl) (argsL := [(.long v30_374), (.long v28_374)]) (rest := [(.long (own_avg ((if ((p5 &&& (63 : Int32)) &&& (16 : Int32)) = (0 : Int32) then (0 : Int64) else ((0 : Int64) + q2)) + (if ((((p5.toUInt32 >>> ((6 : Int32) &&& 31).toUInt32).toInt32) &&& (63 : Int32)) &&& (16 : Int32)) = (0 : Int32) then (0 : Int64) else ((0 : Int64) + q3))) ((if ((p5 &&& (63 : Int32)) &&& (16 : Int32)) = (0 : Int32) then (0 : Int64) else ((0 : Int64) + (1 : Int64))) + (if ((((p5.toUInt32 >>> ((6 : Int32) &&& 31).toUInt32).toInt32) &&& (63 : Int32)) &&& (16 : Int32)) = (0 : Int32) then (0 : Int64) else ((0 : Int64) + (1 : Int64))))))]) (lenOf pd__JJ_J rfl) rfl (by show 2 * 0 + _ ≤ _; exact Nat.le_of_eq rfl) (hb hby at_333) (fun _ _ => ⟨rfl, eq393, (by decide : 3 + 0 ≤ _), (by decide : 32 + 0 ≤ _)⟩)
  dsimp only [Pt.U, Pt.locs, Pt.cells, Pt.slots] at X395 l395 y395 z395 st395 hQ395
  subst l395 y395 z395
  obtain ⟨rfl, N395q, eq395⟩ := hQ395
  have N395 := Fr.app N393 N395q
  have f397 := (((f370_9.keep K372 nin0).keep K374 nin0).keep K376 nin0)
  obtain ⟨cq396, kq396, q396a, q396b, q396c⟩ := isOf hZ eq395 f380
  -- pc 342: com/example/cistern/cistern/PoolState.getAverageCheckoutTime
  obtain ⟨_, _, ⟨T396, L396, k396, n396⟩, -, X396, ⟨Lc396, hQ396, l396, y396, z396⟩, st396⟩ := X395.virtualBack hx (y := y12) (z := y12) hown (mvT hZ (W 149 rfl)) (mvT hZ (W 150 rfl)) (notFace_of_selects (args := #[]) (mvT hZ (W 152 rfl))) (mvT hZ (W 152 rfl)) (mvT hZ (W 151 rfl)) (by decide) (backOf (W := 0) (rmG_averageCheckoutTime l Z a0 ns hG [] b_370 (own_avg ((if ((p5 &&& (63 : Int32)) &&& (32 : Int32)) = (0 : Int32) then (if ((p5 &&& (63 : Int32)) &&& (16 : Int32)) = (0 : Int32) then (0 : Int64) else ((0 : Int64) + q2)) else ((if ((p5 &&& (63 : Int32)) &&& (16 : Int32)) = (0 : Int32) then (0 : Int64) else ((0 : Int64) + q2)) + q3)) + (if ((((p5.toUInt32 >>> ((6 : Int32) &&& 31).toUInt32).toInt32) &&& (63 : Int32)) &&& (32 : Int32)) = (0 : Int32) then (if ((((p5.toUInt32 >>> ((6 : Int32) &&& 31).toUInt32).toInt32) &&& (63 : Int32)) &&& (16 : Int32)) = (0 : Int32) then (0 : Int64) else ((0 : Int64) + q3)) else ((if ((((p5.toUInt32 >>> ((6 : Int32) &&& 31).toUInt32).toInt32) &&& (63 : Int32)) &&& (16 : Int32)) = (0 : Int32) then (0 : Int64) else ((0 : Int64) + q3)) + q4))) ((if ((p5 &&& (63 : Int32)) &&& (32 : Int32)) = (0 : Int32) then (if ((p5 &&& (63 : Int32)) &&& (16 : Int32)) = (0 : Int32) then (0 : Int64) else ((0 : Int64) + (1 : Int64))) else ((if ((p5 &&& (63 : Int32)) &&& (16 : Int32)) = (0 : Int32) then (0 : Int64) else ((0 : Int64) + (1 : Int64))) + (1 : Int64))) + (if ((((p5.toUInt32 >>> ((6 : Int32) &&& 31).toUInt32).toInt32) &&& (63 : Int32)) &&& (32 : Int32)) = (0 : Int32) then (if ((((p5.toUInt32 >>> ((6 : Int32) &&& 31).toUInt32).toInt32) &&& (63 : Int32)) &&& (16 : Int32)) = (0 : Int32) then (0 : Int64) else ((0 : Int64) + (1 : Int64))) else ((if ((((p5.toUInt32 >>> ((6 : Int32) &&& 31).toUInt32).toInt32) &&& (63 : Int32)) &&& (16 : Int32)) = (0 : Int32) then (0 : Int64) else ((0 : Int64) + (1 : Int64))) + (1 : Int64))))) T376.heap n0 Z377 O377 f397) hZ (W 153 rfl) (W 50 rfl) (by decide) (by decide)) q396a q396c (g := (mkF m 342 #[.val (.long q0), .second, .val (.long q1), .second, .val (.long q2), .second, .val (.long q3), .second, .val (.long q4), .second, .val (.int p5), .val (.int (p5 &&& (63 : Int32))), .val (.int (((p5.toUInt32 >>> ((6 : Int32) &&& 31).toUInt32).toInt32) &&& (63 : Int32))), .val (.ref b325), .val (.ref b328), .val (.ref b_370), .val (.long v16_372), .second, .val (.long v18_372), .second, .val (.long v20_372), .second, .val (.long v22_372), .second, .val (.long v24_374), .second, .val (.long v26_374), .second, .val (.long v28_374), .second, .val (.long v30_374), .second, .val (.long v32_376), .second, .val (.long v34_376), .second] [(.ref b_370)])) rfl (by rw [hml]; rfl) (Steps.refl _) (argsL := []) (rest := []) (lenOf pd___J rfl) rfl (by show 2 * 0 + _ ≤ _; exact Nat.le_of_eq rfl) (hb hby at_342) (fun _ _ => ⟨rfl, eq395, (by decide : 3 + 0 ≤ _), (by decide : 32 + 0 ≤ _)⟩)
  dsimp only [Pt.U, Pt.locs, Pt.cells, Pt.slots] at X396 l396 y396 z396 st396 hQ396
  subst l396 y396 z396
  obtain ⟨rfl, N396q, eq396⟩ := hQ396
  have N396 := Fr.app N395 N396q
  -- pc 349: com/example/cistern/cistern/CountersAddPinLaw.avg
  obtain ⟨_, _, ⟨T398, L398, k398, n398⟩, -, X398, ⟨Lc398, hQ398, l398, y398, z398⟩, st398⟩ := Jvm.LawKit.callS X396 hx (y := y23) hown (mvT hZ (W 120 rfl)) (mvT hZ (W 121 rfl)) (mvT hZ (W 11 rfl)) (mvT hZ (W 122 rfl)) (by decide) (backOf (W := 2) (rmlavg l Z a0 ns hG [] v34_376 v32_376 T376.heap n0 Z377 O377) hZ (W 122 rfl) (W 11 rfl) (by decide) (by decide)) (g := (mkF m 349 #[.val (.long q0), .second, .val (.long q1), .second, .val (.long q2), .second, .val (.long q3), .second, .val (.long q4), .second, .val (.int p5), .val (.int (p5 &&& (63 : Int32))), .val (.int (((p5.toUInt32 >>> ((6 : Int32) &&& 31).toUInt32).toInt32) &&& (63 : Int32))), .val (.ref b325), .val (.ref b328), .val (.ref b_370), .val (.long v16_372), .second, .val (.long v18_372), .second, .val (.long v20_372), .second, .val (.long v22_372), .second, .val (.long v24_374), .second, .val (.long v26_374), .second, .val (.long v28_374), .second, .val (.long v30_374), .second, .val (.long v32_376), .second, .val (.long v34_376), .second] [(.long v32_376), (.long v34_376), (.long (own_avg ((if ((p5 &&& (63 : Int32)) &&& (32 : Int32)) = (0 : Int32) then (if ((p5 &&& (63 : Int32)) &&& (16 : Int32)) = (0 : Int32) then (0 : Int64) else ((0 : Int64) + q2)) else ((if ((p5 &&& (63 : Int32)) &&& (16 : Int32)) = (0 : Int32) then (0 : Int64) else ((0 : Int64) + q2)) + q3)) + (if ((((p5.toUInt32 >>> ((6 : Int32) &&& 31).toUInt32).toInt32) &&& (63 : Int32)) &&& (32 : Int32)) = (0 : Int32) then (if ((((p5.toUInt32 >>> ((6 : Int32) &&& 31).toUInt32).toInt32) &&& (63 : Int32)) &&& (16 : Int32)) = (0 : Int32) then (0 : Int64) else ((0 : Int64) + q3)) else ((if ((((p5.toUInt32 >>> ((6 : Int32) &&& 31).toUInt32).toInt32) &&& (63 : Int32)) &&& (16 : Int32)) = (0 : Int32) then (0 : Int64) else ((0 : Int64) + q3)) + q4))) ((if ((p5 &&& (63 : Int32)) &&& (32 : Int32)) = (0 : Int32) then (if ((p5 &&& (63 : Int32)) &&& (16 : Int32)) = (0 : Int32) then (0 : Int64) else ((0 : Int64) + (1 : Int64))) else ((if ((p5 &&& (63 : Int32)) &&& (16 : Int32)) = (0 : Int32) then (0 : Int64) else ((0 : Int64) + (1 : Int64))) + (1 : Int64))) + (if ((((p5.toUInt32 >>> ((6 : Int32) &&& 31).toUInt32).toInt32) &&& (63 : Int32)) &&& (32 : Int32)) = (0 : Int32) then (if ((((p5.toUInt32 >>> ((6 : Int32) &&& 31).toUInt32).toInt32) &&& (63 : Int32)) &&& (16 : Int32)) = (0 : Int32) then (0 : Int64) else ((0 : Int64) + (1 : Int64))) else ((if ((((p5.toUInt32 >>> ((6 : Int32) &&& 31).toUInt32).toInt32) &&& (63 : Int32)) &&& (16 : Int32)) = (0 : Int32) then (0 : Int64) else ((0 : Int64) + (1 : Int64))) + (1 : Int64))))))])) rfl (by rw [hml]; rfl) (argsL := [(.long v34_376), (.long v32_376)]) (rest := [(.long (own_avg ((if ((p5 &&& (63 : Int32)) &&& (32 : Int32)) = (0 : Int32) then (if ((p5 &&& (63 : Int32)) &&& (16 : Int32)) = (0 : Int32) then (0 : Int64) else ((0 : Int64) + q2)) else ((if ((p5 &&& (63 : Int32)) &&& (16 : Int32)) = (0 : Int32) then (0 : Int64) else ((0 : Int64) + q2)) + q3)) + (if ((((p5.toUInt32 >>> ((6 : Int32) &&& 31).toUInt32).toInt32) &&& (63 : Int32)) &&& (32 : Int32)) = (0 : Int32) then (if ((((p5.toUInt32 >>> ((6 : Int32) &&& 31).toUInt32).toInt32) &&& (63 : Int32)) &&& (16 : Int32)) = (0 : Int32) then (0 : Int64) else ((0 : Int64) + q3)) else ((if ((((p5.toUInt32 >>> ((6 : Int32) &&& 31).toUInt32).toInt32) &&& (63 : Int32)) &&& (16 : Int32)) = (0 : Int32) then (0 : Int64) else ((0 : Int64) + q3)) + q4))) ((if ((p5 &&& (63 : Int32)) &&& (32 : Int32)) = (0 : Int32) then (if ((p5 &&& (63 : Int32)) &&& (16 : Int32)) = (0 : Int32) then (0 : Int64) else ((0 : Int64) + (1 : Int64))) else ((if ((p5 &&& (63 : Int32)) &&& (16 : Int32)) = (0 : Int32) then (0 : Int64) else ((0 : Int64) + (1 : Int64))) + (1 : Int64))) + (if ((((p5.toUInt32 >>> ((6 : Int32) &&& 31).toUInt32).toInt32) &&& (63 : Int32)) &&& (32 : Int32)) = (0 : Int32) then (if ((((p5.toUInt32 >>> ((6 : Int32) &&& 31).toUInt32).toInt32) &&& (63 : Int32)) &&& (16 : Int32)) = (0 : Int32) then (0 : Int64) else ((0 : Int64) + (1 : Int64))) else ((if ((((p5.toUInt32 >>> ((6 : Int32) &&& 31).toUInt32).toInt32) &&& (63 : Int32)) &&& (16 : Int32)) = (0 : Int32) then (0 : Int64) else ((0 : Int64) + (1 : Int64))) + (1 : Int64))))))]) (lenOf pd__JJ_J rfl) rfl (by show 2 * 0 + _ ≤ _; exact Nat.le_of_eq rfl) (hb hby at_349) (fun _ _ => ⟨rfl, eq396, (by decide : 3 + 0 ≤ _), (by decide : 32 + 0 ≤ _)⟩)
  dsimp only [Pt.U, Pt.locs, Pt.cells, Pt.slots] at X398 l398 y398 z398 st398 hQ398
  subst l398 y398 z398
  obtain ⟨rfl, N398q, eq398⟩ := hQ398
  have N398 := Fr.app N396 N398q
  have f400 := (((f370_13.keep K372 nin0).keep K374 nin0).keep K376 nin0)
  obtain ⟨cq399, kq399, q399a, q399b, q399c⟩ := isOf hZ eq398 f380
  -- pc 358: com/example/cistern/cistern/PoolState.getConnectionsOpened
  obtain ⟨_, _, ⟨T399, L399, k399, n399⟩, -, X399, ⟨Lc399, hQ399, l399, y399, z399⟩, st399⟩ := X398.virtualBack hx (y := y13) (z := y13) hown (mvT hZ (W 154 rfl)) (mvT hZ (W 155 rfl)) (notFace_of_selects (args := #[]) (mvT hZ (W 157 rfl))) (mvT hZ (W 157 rfl)) (mvT hZ (W 156 rfl)) (by decide) (backOf (W := 0) (rmG_connectionsOpened l Z a0 ns hG [] b_370 ((if ((p5 &&& (63 : Int32)) &&& (8 : Int32)) = (0 : Int32) then (0 : Int64) else ((0 : Int64) + (1 : Int64))) + (if ((((p5.toUInt32 >>> ((6 : Int32) &&& 31).toUInt32).toInt32) &&& (63 : Int32)) &&& (8 : Int32)) = (0 : Int32) then (0 : Int64) else ((0 : Int64) + (1 : Int64)))) T376.heap n0 Z377 O377 f400) hZ (W 158 rfl) (W 50 rfl) (by decide) (by decide)) q399a q399c (g := (mkF m 358 #[.val (.long q0), .second, .val (.long q1), .second, .val (.long q2), .second, .val (.long q3), .second, .val (.long q4), .second, .val (.int p5), .val (.int (p5 &&& (63 : Int32))), .val (.int (((p5.toUInt32 >>> ((6 : Int32) &&& 31).toUInt32).toInt32) &&& (63 : Int32))), .val (.ref b325), .val (.ref b328), .val (.ref b_370), .val (.long v16_372), .second, .val (.long v18_372), .second, .val (.long v20_372), .second, .val (.long v22_372), .second, .val (.long v24_374), .second, .val (.long v26_374), .second, .val (.long v28_374), .second, .val (.long v30_374), .second, .val (.long v32_376), .second, .val (.long v34_376), .second] [(.ref b_370)])) rfl (by rw [hml]; rfl) (Steps.refl _) (argsL := []) (rest := []) (lenOf pd___J rfl) rfl (by show 2 * 0 + _ ≤ _; exact Nat.le_of_eq rfl) (hb hby at_358) (fun _ _ => ⟨rfl, eq398, (by decide : 3 + 0 ≤ _), (by decide : 32 + 0 ≤ _)⟩)
  dsimp only [Pt.U, Pt.locs, Pt.cells, Pt.slots] at X399 l399 y399 z399 st399 hQ399
  subst l399 y399 z399
  obtain ⟨rfl, N399q, eq399⟩ := hQ399
  have N399 := Fr.app N398 N399q
  obtain ⟨fs, hr, hrun, hended, hW, hsame⟩ := X399.leave (v := some (.int (1 : Int32))) (fun h => by rw [Bd.returns] at h; cases h)
  refine ⟨_, _, pre0 _ ?_, hrun, hended, _, _, rfl, ?_, ⟨_, rfl⟩, hW, hsame.mono (Nat.le_of_ble_eq_true rfl) (Nat.le_of_ble_eq_true rfl)⟩
  · show Steps p.tables e below (s₁.setTop (mkF m 0 #[.val (.long q0), .second, .val (.long q1), .second, .val (.long q2), .second, .val (.long q3), .second, .val (.long q4), .second, .val (.int p5), .unset, .unset, .unset, .unset, .unset, .unset, .unset, .unset, .unset, .unset, .unset, .unset, .unset, .unset, .unset, .unset, .unset, .unset, .unset, .unset, .unset, .unset, .unset, .unset, .unset] [])) _
    refine XS.iload X0.here hx rfl (hb hby at_0) rfl ?_
    show Steps p.tables e below (s₁.setTop (mkF m 2 #[.val (.long q0), .second, .val (.long q1), .second, .val (.long q2), .second, .val (.long q3), .second, .val (.long q4), .second, .val (.int p5), .unset, .unset, .unset, .unset, .unset, .unset, .unset, .unset, .unset, .unset, .unset, .unset, .unset, .unset, .unset, .unset, .unset, .unset, .unset, .unset, .unset, .unset, .unset, .unset, .unset] [(.int p5)])) _
    refine XS.bipush X0.here hx rfl (hb hby at_2) ?_
    show Steps p.tables e below (s₁.setTop (mkF m 4 #[.val (.long q0), .second, .val (.long q1), .second, .val (.long q2), .second, .val (.long q3), .second, .val (.long q4), .second, .val (.int p5), .unset, .unset, .unset, .unset, .unset, .unset, .unset, .unset, .unset, .unset, .unset, .unset, .unset, .unset, .unset, .unset, .unset, .unset, .unset, .unset, .unset, .unset, .unset, .unset, .unset] [(.int (63 : Int32)), (.int p5)])) _
    refine XS.iand X0.here hx rfl (hb hby at_4) rfl ?_
    show Steps p.tables e below (s₁.setTop (mkF m 5 #[.val (.long q0), .second, .val (.long q1), .second, .val (.long q2), .second, .val (.long q3), .second, .val (.long q4), .second, .val (.int p5), .unset, .unset, .unset, .unset, .unset, .unset, .unset, .unset, .unset, .unset, .unset, .unset, .unset, .unset, .unset, .unset, .unset, .unset, .unset, .unset, .unset, .unset, .unset, .unset, .unset] [(.int (p5 &&& (63 : Int32)))])) _
    refine XS.istore X0.here hx rfl (hb hby at_5) rfl (l' := #[.val (.long q0), .second, .val (.long q1), .second, .val (.long q2), .second, .val (.long q3), .second, .val (.long q4), .second, .val (.int p5), .val (.int (p5 &&& (63 : Int32))), .unset, .unset, .unset, .unset, .unset, .unset, .unset, .unset, .unset, .unset, .unset, .unset, .unset, .unset, .unset, .unset, .unset, .unset, .unset, .unset, .unset, .unset, .unset, .unset]) rfl ?_
    show Steps p.tables e below (s₁.setTop (mkF m 7 #[.val (.long q0), .second, .val (.long q1), .second, .val (.long q2), .second, .val (.long q3), .second, .val (.long q4), .second, .val (.int p5), .val (.int (p5 &&& (63 : Int32))), .unset, .unset, .unset, .unset, .unset, .unset, .unset, .unset, .unset, .unset, .unset, .unset, .unset, .unset, .unset, .unset, .unset, .unset, .unset, .unset, .unset, .unset, .unset, .unset] [])) _
    refine XS.iload X0.here hx rfl (hb hby at_7) rfl ?_
    show Steps p.tables e below (s₁.setTop (mkF m 9 #[.val (.long q0), .second, .val (.long q1), .second, .val (.long q2), .second, .val (.long q3), .second, .val (.long q4), .second, .val (.int p5), .val (.int (p5 &&& (63 : Int32))), .unset, .unset, .unset, .unset, .unset, .unset, .unset, .unset, .unset, .unset, .unset, .unset, .unset, .unset, .unset, .unset, .unset, .unset, .unset, .unset, .unset, .unset, .unset, .unset] [(.int p5)])) _
    refine XS.bipush X0.here hx rfl (hb hby at_9) ?_
    show Steps p.tables e below (s₁.setTop (mkF m 11 #[.val (.long q0), .second, .val (.long q1), .second, .val (.long q2), .second, .val (.long q3), .second, .val (.long q4), .second, .val (.int p5), .val (.int (p5 &&& (63 : Int32))), .unset, .unset, .unset, .unset, .unset, .unset, .unset, .unset, .unset, .unset, .unset, .unset, .unset, .unset, .unset, .unset, .unset, .unset, .unset, .unset, .unset, .unset, .unset, .unset] [(.int (6 : Int32)), (.int p5)])) _
    refine XS.iushr X0.here hx rfl (hb hby at_11) rfl ?_
    show Steps p.tables e below (s₁.setTop (mkF m 12 #[.val (.long q0), .second, .val (.long q1), .second, .val (.long q2), .second, .val (.long q3), .second, .val (.long q4), .second, .val (.int p5), .val (.int (p5 &&& (63 : Int32))), .unset, .unset, .unset, .unset, .unset, .unset, .unset, .unset, .unset, .unset, .unset, .unset, .unset, .unset, .unset, .unset, .unset, .unset, .unset, .unset, .unset, .unset, .unset, .unset] [(.int ((p5.toUInt32 >>> ((6 : Int32) &&& 31).toUInt32).toInt32))])) _
    refine XS.bipush X0.here hx rfl (hb hby at_12) ?_
    show Steps p.tables e below (s₁.setTop (mkF m 14 #[.val (.long q0), .second, .val (.long q1), .second, .val (.long q2), .second, .val (.long q3), .second, .val (.long q4), .second, .val (.int p5), .val (.int (p5 &&& (63 : Int32))), .unset, .unset, .unset, .unset, .unset, .unset, .unset, .unset, .unset, .unset, .unset, .unset, .unset, .unset, .unset, .unset, .unset, .unset, .unset, .unset, .unset, .unset, .unset, .unset] [(.int (63 : Int32)), (.int ((p5.toUInt32 >>> ((6 : Int32) &&& 31).toUInt32).toInt32))])) _
    refine XS.iand X0.here hx rfl (hb hby at_14) rfl ?_
    show Steps p.tables e below (s₁.setTop (mkF m 15 #[.val (.long q0), .second, .val (.long q1), .second, .val (.long q2), .second, .val (.long q3), .second, .val (.long q4), .second, .val (.int p5), .val (.int (p5 &&& (63 : Int32))), .unset, .unset, .unset, .unset, .unset, .unset, .unset, .unset, .unset, .unset, .unset, .unset, .unset, .unset, .unset, .unset, .unset, .unset, .unset, .unset, .unset, .unset, .unset, .unset] [(.int (((p5.toUInt32 >>> ((6 : Int32) &&& 31).toUInt32).toInt32) &&& (63 : Int32)))])) _
    refine XS.istore X0.here hx rfl (hb hby at_15) rfl (l' := #[.val (.long q0), .second, .val (.long q1), .second, .val (.long q2), .second, .val (.long q3), .second, .val (.long q4), .second, .val (.int p5), .val (.int (p5 &&& (63 : Int32))), .val (.int (((p5.toUInt32 >>> ((6 : Int32) &&& 31).toUInt32).toInt32) &&& (63 : Int32))), .unset, .unset, .unset, .unset, .unset, .unset, .unset, .unset, .unset, .unset, .unset, .unset, .unset, .unset, .unset, .unset, .unset, .unset, .unset, .unset, .unset, .unset, .unset]) rfl ?_
    show Steps p.tables e below (s₁.setTop (mkF m 17 #[.val (.long q0), .second, .val (.long q1), .second, .val (.long q2), .second, .val (.long q3), .second, .val (.long q4), .second, .val (.int p5), .val (.int (p5 &&& (63 : Int32))), .val (.int (((p5.toUInt32 >>> ((6 : Int32) &&& 31).toUInt32).toInt32) &&& (63 : Int32))), .unset, .unset, .unset, .unset, .unset, .unset, .unset, .unset, .unset, .unset, .unset, .unset, .unset, .unset, .unset, .unset, .unset, .unset, .unset, .unset, .unset, .unset, .unset] [])) _
    refine st325 _ ?_
    show Steps p.tables e below (T325.setTop (mkF m 20 #[.val (.long q0), .second, .val (.long q1), .second, .val (.long q2), .second, .val (.long q3), .second, .val (.long q4), .second, .val (.int p5), .val (.int (p5 &&& (63 : Int32))), .val (.int (((p5.toUInt32 >>> ((6 : Int32) &&& 31).toUInt32).toInt32) &&& (63 : Int32))), .unset, .unset, .unset, .unset, .unset, .unset, .unset, .unset, .unset, .unset, .unset, .unset, .unset, .unset, .unset, .unset, .unset, .unset, .unset, .unset, .unset, .unset, .unset] [(.ref b325)])) _
    refine XS.dup X325.here hx rfl (hb hby at_20) rfl rfl ?_
    show Steps p.tables e below (T325.setTop (mkF m 21 #[.val (.long q0), .second, .val (.long q1), .second, .val (.long q2), .second, .val (.long q3), .second, .val (.long q4), .second, .val (.int p5), .val (.int (p5 &&& (63 : Int32))), .val (.int (((p5.toUInt32 >>> ((6 : Int32) &&& 31).toUInt32).toInt32) &&& (63 : Int32))), .unset, .unset, .unset, .unset, .unset, .unset, .unset, .unset, .unset, .unset, .unset, .unset, .unset, .unset, .unset, .unset, .unset, .unset, .unset, .unset, .unset, .unset, .unset] [(.ref b325), (.ref b325)])) _
    refine st327.trans ?_
    show Steps p.tables e below (T327.setTop (mkF m 24 #[.val (.long q0), .second, .val (.long q1), .second, .val (.long q2), .second, .val (.long q3), .second, .val (.long q4), .second, .val (.int p5), .val (.int (p5 &&& (63 : Int32))), .val (.int (((p5.toUInt32 >>> ((6 : Int32) &&& 31).toUInt32).toInt32) &&& (63 : Int32))), .unset, .unset, .unset, .unset, .unset, .unset, .unset, .unset, .unset, .unset, .unset, .unset, .unset, .unset, .unset, .unset, .unset, .unset, .unset, .unset, .unset, .unset, .unset] [(.ref b325)])) _
    refine XS.astore X327.here hx rfl (hb hby at_24) rfl rfl (l' := #[.val (.long q0), .second, .val (.long q1), .second, .val (.long q2), .second, .val (.long q3), .second, .val (.long q4), .second, .val (.int p5), .val (.int (p5 &&& (63 : Int32))), .val (.int (((p5.toUInt32 >>> ((6 : Int32) &&& 31).toUInt32).toInt32) &&& (63 : Int32))), .val (.ref b325), .unset, .unset, .unset, .unset, .unset, .unset, .unset, .unset, .unset, .unset, .unset, .unset, .unset, .unset, .unset, .unset, .unset, .unset, .unset, .unset, .unset, .unset]) rfl ?_
    show Steps p.tables e below (T327.setTop (mkF m 26 #[.val (.long q0), .second, .val (.long q1), .second, .val (.long q2), .second, .val (.long q3), .second, .val (.long q4), .second, .val (.int p5), .val (.int (p5 &&& (63 : Int32))), .val (.int (((p5.toUInt32 >>> ((6 : Int32) &&& 31).toUInt32).toInt32) &&& (63 : Int32))), .val (.ref b325), .unset, .unset, .unset, .unset, .unset, .unset, .unset, .unset, .unset, .unset, .unset, .unset, .unset, .unset, .unset, .unset, .unset, .unset, .unset, .unset, .unset, .unset] [])) _
    refine st328 _ ?_
    show Steps p.tables e below (T328.setTop (mkF m 29 #[.val (.long q0), .second, .val (.long q1), .second, .val (.long q2), .second, .val (.long q3), .second, .val (.long q4), .second, .val (.int p5), .val (.int (p5 &&& (63 : Int32))), .val (.int (((p5.toUInt32 >>> ((6 : Int32) &&& 31).toUInt32).toInt32) &&& (63 : Int32))), .val (.ref b325), .unset, .unset, .unset, .unset, .unset, .unset, .unset, .unset, .unset, .unset, .unset, .unset, .unset, .unset, .unset, .unset, .unset, .unset, .unset, .unset, .unset, .unset] [(.ref b328)])) _
    refine XS.dup X328.here hx rfl (hb hby at_29) rfl rfl ?_
    show Steps p.tables e below (T328.setTop (mkF m 30 #[.val (.long q0), .second, .val (.long q1), .second, .val (.long q2), .second, .val (.long q3), .second, .val (.long q4), .second, .val (.int p5), .val (.int (p5 &&& (63 : Int32))), .val (.int (((p5.toUInt32 >>> ((6 : Int32) &&& 31).toUInt32).toInt32) &&& (63 : Int32))), .val (.ref b325), .unset, .unset, .unset, .unset, .unset, .unset, .unset, .unset, .unset, .unset, .unset, .unset, .unset, .unset, .unset, .unset, .unset, .unset, .unset, .unset, .unset, .unset] [(.ref b328), (.ref b328)])) _
    refine st330.trans ?_
    show Steps p.tables e below (T330.setTop (mkF m 33 #[.val (.long q0), .second, .val (.long q1), .second, .val (.long q2), .second, .val (.long q3), .second, .val (.long q4), .second, .val (.int p5), .val (.int (p5 &&& (63 : Int32))), .val (.int (((p5.toUInt32 >>> ((6 : Int32) &&& 31).toUInt32).toInt32) &&& (63 : Int32))), .val (.ref b325), .unset, .unset, .unset, .unset, .unset, .unset, .unset, .unset, .unset, .unset, .unset, .unset, .unset, .unset, .unset, .unset, .unset, .unset, .unset, .unset, .unset, .unset] [(.ref b328)])) _
    refine XS.astore X330.here hx rfl (hb hby at_33) rfl rfl (l' := #[.val (.long q0), .second, .val (.long q1), .second, .val (.long q2), .second, .val (.long q3), .second, .val (.long q4), .second, .val (.int p5), .val (.int (p5 &&& (63 : Int32))), .val (.int (((p5.toUInt32 >>> ((6 : Int32) &&& 31).toUInt32).toInt32) &&& (63 : Int32))), .val (.ref b325), .val (.ref b328), .unset, .unset, .unset, .unset, .unset, .unset, .unset, .unset, .unset, .unset, .unset, .unset, .unset, .unset, .unset, .unset, .unset, .unset, .unset, .unset, .unset]) rfl ?_
    show Steps p.tables e below (T330.setTop (mkF m 35 #[.val (.long q0), .second, .val (.long q1), .second, .val (.long q2), .second, .val (.long q3), .second, .val (.long q4), .second, .val (.int p5), .val (.int (p5 &&& (63 : Int32))), .val (.int (((p5.toUInt32 >>> ((6 : Int32) &&& 31).toUInt32).toInt32) &&& (63 : Int32))), .val (.ref b325), .val (.ref b328), .unset, .unset, .unset, .unset, .unset, .unset, .unset, .unset, .unset, .unset, .unset, .unset, .unset, .unset, .unset, .unset, .unset, .unset, .unset, .unset, .unset] [])) _
    refine XS.aload X330.here hx rfl (hb hby at_35) rfl rfl ?_
    show Steps p.tables e below (T330.setTop (mkF m 37 #[.val (.long q0), .second, .val (.long q1), .second, .val (.long q2), .second, .val (.long q3), .second, .val (.long q4), .second, .val (.int p5), .val (.int (p5 &&& (63 : Int32))), .val (.int (((p5.toUInt32 >>> ((6 : Int32) &&& 31).toUInt32).toInt32) &&& (63 : Int32))), .val (.ref b325), .val (.ref b328), .unset, .unset, .unset, .unset, .unset, .unset, .unset, .unset, .unset, .unset, .unset, .unset, .unset, .unset, .unset, .unset, .unset, .unset, .unset, .unset, .unset] [(.ref b325)])) _
    refine XS.iload X330.here hx rfl (hb hby at_37) rfl ?_
    show Steps p.tables e below (T330.setTop (mkF m 39 #[.val (.long q0), .second, .val (.long q1), .second, .val (.long q2), .second, .val (.long q3), .second, .val (.long q4), .second, .val (.int p5), .val (.int (p5 &&& (63 : Int32))), .val (.int (((p5.toUInt32 >>> ((6 : Int32) &&& 31).toUInt32).toInt32) &&& (63 : Int32))), .val (.ref b325), .val (.ref b328), .unset, .unset, .unset, .unset, .unset, .unset, .unset, .unset, .unset, .unset, .unset, .unset, .unset, .unset, .unset, .unset, .unset, .unset, .unset, .unset, .unset] [(.int (p5 &&& (63 : Int32))), (.ref b325)])) _
    refine XS.lloadN X330.here hx rfl (hb hby at_39) rfl ?_
    show Steps p.tables e below (T330.setTop (mkF m 40 #[.val (.long q0), .second, .val (.long q1), .second, .val (.long q2), .second, .val (.long q3), .second, .val (.long q4), .second, .val (.int p5), .val (.int (p5 &&& (63 : Int32))), .val (.int (((p5.toUInt32 >>> ((6 : Int32) &&& 31).toUInt32).toInt32) &&& (63 : Int32))), .val (.ref b325), .val (.ref b328), .unset, .unset, .unset, .unset, .unset, .unset, .unset, .unset, .unset, .unset, .unset, .unset, .unset, .unset, .unset, .unset, .unset, .unset, .unset, .unset, .unset] [(.long q0), (.int (p5 &&& (63 : Int32))), (.ref b325)])) _
    refine XS.lloadN X330.here hx rfl (hb hby at_40) rfl ?_
    show Steps p.tables e below (T330.setTop (mkF m 41 #[.val (.long q0), .second, .val (.long q1), .second, .val (.long q2), .second, .val (.long q3), .second, .val (.long q4), .second, .val (.int p5), .val (.int (p5 &&& (63 : Int32))), .val (.int (((p5.toUInt32 >>> ((6 : Int32) &&& 31).toUInt32).toInt32) &&& (63 : Int32))), .val (.ref b325), .val (.ref b328), .unset, .unset, .unset, .unset, .unset, .unset, .unset, .unset, .unset, .unset, .unset, .unset, .unset, .unset, .unset, .unset, .unset, .unset, .unset, .unset, .unset] [(.long q1), (.long q0), (.int (p5 &&& (63 : Int32))), (.ref b325)])) _
    refine XS.lload X330.here hx rfl (hb hby at_41) rfl ?_
    show Steps p.tables e below (T330.setTop (mkF m 43 #[.val (.long q0), .second, .val (.long q1), .second, .val (.long q2), .second, .val (.long q3), .second, .val (.long q4), .second, .val (.int p5), .val (.int (p5 &&& (63 : Int32))), .val (.int (((p5.toUInt32 >>> ((6 : Int32) &&& 31).toUInt32).toInt32) &&& (63 : Int32))), .val (.ref b325), .val (.ref b328), .unset, .unset, .unset, .unset, .unset, .unset, .unset, .unset, .unset, .unset, .unset, .unset, .unset, .unset, .unset, .unset, .unset, .unset, .unset, .unset, .unset] [(.long q2), (.long q1), (.long q0), (.int (p5 &&& (63 : Int32))), (.ref b325)])) _
    refine XS.lload X330.here hx rfl (hb hby at_43) rfl ?_
    show Steps p.tables e below (T330.setTop (mkF m 45 #[.val (.long q0), .second, .val (.long q1), .second, .val (.long q2), .second, .val (.long q3), .second, .val (.long q4), .second, .val (.int p5), .val (.int (p5 &&& (63 : Int32))), .val (.int (((p5.toUInt32 >>> ((6 : Int32) &&& 31).toUInt32).toInt32) &&& (63 : Int32))), .val (.ref b325), .val (.ref b328), .unset, .unset, .unset, .unset, .unset, .unset, .unset, .unset, .unset, .unset, .unset, .unset, .unset, .unset, .unset, .unset, .unset, .unset, .unset, .unset, .unset] [(.long q3), (.long q2), (.long q1), (.long q0), (.int (p5 &&& (63 : Int32))), (.ref b325)])) _
    refine st331 _ ?_
    show Steps p.tables e below (T331.setTop (mkF m 48 #[.val (.long q0), .second, .val (.long q1), .second, .val (.long q2), .second, .val (.long q3), .second, .val (.long q4), .second, .val (.int p5), .val (.int (p5 &&& (63 : Int32))), .val (.int (((p5.toUInt32 >>> ((6 : Int32) &&& 31).toUInt32).toInt32) &&& (63 : Int32))), .val (.ref b325), .val (.ref b328), .unset, .unset, .unset, .unset, .unset, .unset, .unset, .unset, .unset, .unset, .unset, .unset, .unset, .unset, .unset, .unset, .unset, .unset, .unset, .unset, .unset] [])) _
    refine XS.aload X331.here hx rfl (hb hby at_48) rfl rfl ?_
    show Steps p.tables e below (T331.setTop (mkF m 50 #[.val (.long q0), .second, .val (.long q1), .second, .val (.long q2), .second, .val (.long q3), .second, .val (.long q4), .second, .val (.int p5), .val (.int (p5 &&& (63 : Int32))), .val (.int (((p5.toUInt32 >>> ((6 : Int32) &&& 31).toUInt32).toInt32) &&& (63 : Int32))), .val (.ref b325), .val (.ref b328), .unset, .unset, .unset, .unset, .unset, .unset, .unset, .unset, .unset, .unset, .unset, .unset, .unset, .unset, .unset, .unset, .unset, .unset, .unset, .unset, .unset] [(.ref b328)])) _
    refine XS.iload X331.here hx rfl (hb hby at_50) rfl ?_
    show Steps p.tables e below (T331.setTop (mkF m 52 #[.val (.long q0), .second, .val (.long q1), .second, .val (.long q2), .second, .val (.long q3), .second, .val (.long q4), .second, .val (.int p5), .val (.int (p5 &&& (63 : Int32))), .val (.int (((p5.toUInt32 >>> ((6 : Int32) &&& 31).toUInt32).toInt32) &&& (63 : Int32))), .val (.ref b325), .val (.ref b328), .unset, .unset, .unset, .unset, .unset, .unset, .unset, .unset, .unset, .unset, .unset, .unset, .unset, .unset, .unset, .unset, .unset, .unset, .unset, .unset, .unset] [(.int (((p5.toUInt32 >>> ((6 : Int32) &&& 31).toUInt32).toInt32) &&& (63 : Int32))), (.ref b328)])) _
    refine XS.lloadN X331.here hx rfl (hb hby at_52) rfl ?_
    show Steps p.tables e below (T331.setTop (mkF m 53 #[.val (.long q0), .second, .val (.long q1), .second, .val (.long q2), .second, .val (.long q3), .second, .val (.long q4), .second, .val (.int p5), .val (.int (p5 &&& (63 : Int32))), .val (.int (((p5.toUInt32 >>> ((6 : Int32) &&& 31).toUInt32).toInt32) &&& (63 : Int32))), .val (.ref b325), .val (.ref b328), .unset, .unset, .unset, .unset, .unset, .unset, .unset, .unset, .unset, .unset, .unset, .unset, .unset, .unset, .unset, .unset, .unset, .unset, .unset, .unset, .unset] [(.long q1), (.int (((p5.toUInt32 >>> ((6 : Int32) &&& 31).toUInt32).toInt32) &&& (63 : Int32))), (.ref b328)])) _
    refine XS.lload X331.here hx rfl (hb hby at_53) rfl ?_
    show Steps p.tables e below (T331.setTop (mkF m 55 #[.val (.long q0), .second, .val (.long q1), .second, .val (.long q2), .second, .val (.long q3), .second, .val (.long q4), .second, .val (.int p5), .val (.int (p5 &&& (63 : Int32))), .val (.int (((p5.toUInt32 >>> ((6 : Int32) &&& 31).toUInt32).toInt32) &&& (63 : Int32))), .val (.ref b325), .val (.ref b328), .unset, .unset, .unset, .unset, .unset, .unset, .unset, .unset, .unset, .unset, .unset, .unset, .unset, .unset, .unset, .unset, .unset, .unset, .unset, .unset, .unset] [(.long q2), (.long q1), (.int (((p5.toUInt32 >>> ((6 : Int32) &&& 31).toUInt32).toInt32) &&& (63 : Int32))), (.ref b328)])) _
    refine XS.lload X331.here hx rfl (hb hby at_55) rfl ?_
    show Steps p.tables e below (T331.setTop (mkF m 57 #[.val (.long q0), .second, .val (.long q1), .second, .val (.long q2), .second, .val (.long q3), .second, .val (.long q4), .second, .val (.int p5), .val (.int (p5 &&& (63 : Int32))), .val (.int (((p5.toUInt32 >>> ((6 : Int32) &&& 31).toUInt32).toInt32) &&& (63 : Int32))), .val (.ref b325), .val (.ref b328), .unset, .unset, .unset, .unset, .unset, .unset, .unset, .unset, .unset, .unset, .unset, .unset, .unset, .unset, .unset, .unset, .unset, .unset, .unset, .unset, .unset] [(.long q3), (.long q2), (.long q1), (.int (((p5.toUInt32 >>> ((6 : Int32) &&& 31).toUInt32).toInt32) &&& (63 : Int32))), (.ref b328)])) _
    refine XS.lload X331.here hx rfl (hb hby at_57) rfl ?_
    show Steps p.tables e below (T331.setTop (mkF m 59 #[.val (.long q0), .second, .val (.long q1), .second, .val (.long q2), .second, .val (.long q3), .second, .val (.long q4), .second, .val (.int p5), .val (.int (p5 &&& (63 : Int32))), .val (.int (((p5.toUInt32 >>> ((6 : Int32) &&& 31).toUInt32).toInt32) &&& (63 : Int32))), .val (.ref b325), .val (.ref b328), .unset, .unset, .unset, .unset, .unset, .unset, .unset, .unset, .unset, .unset, .unset, .unset, .unset, .unset, .unset, .unset, .unset, .unset, .unset, .unset, .unset] [(.long q4), (.long q3), (.long q2), (.long q1), (.int (((p5.toUInt32 >>> ((6 : Int32) &&& 31).toUInt32).toInt32) &&& (63 : Int32))), (.ref b328)])) _
    refine st344 _ ?_
    show Steps p.tables e below (T344.setTop (mkF m 62 #[.val (.long q0), .second, .val (.long q1), .second, .val (.long q2), .second, .val (.long q3), .second, .val (.long q4), .second, .val (.int p5), .val (.int (p5 &&& (63 : Int32))), .val (.int (((p5.toUInt32 >>> ((6 : Int32) &&& 31).toUInt32).toInt32) &&& (63 : Int32))), .val (.ref b325), .val (.ref b328), .unset, .unset, .unset, .unset, .unset, .unset, .unset, .unset, .unset, .unset, .unset, .unset, .unset, .unset, .unset, .unset, .unset, .unset, .unset, .unset, .unset] [])) _
    refine XS.aload X344.here hx rfl (hb hby at_62) rfl rfl ?_
    show Steps p.tables e below (T344.setTop (mkF m 64 #[.val (.long q0), .second, .val (.long q1), .second, .val (.long q2), .second, .val (.long q3), .second, .val (.long q4), .second, .val (.int p5), .val (.int (p5 &&& (63 : Int32))), .val (.int (((p5.toUInt32 >>> ((6 : Int32) &&& 31).toUInt32).toInt32) &&& (63 : Int32))), .val (.ref b325), .val (.ref b328), .unset, .unset, .unset, .unset, .unset, .unset, .unset, .unset, .unset, .unset, .unset, .unset, .unset, .unset, .unset, .unset, .unset, .unset, .unset, .unset, .unset] [(.ref b325)])) _
    refine XS.aload X344.here hx rfl (hb hby at_64) rfl rfl ?_
    show Steps p.tables e below (T344.setTop (mkF m 66 #[.val (.long q0), .second, .val (.long q1), .second, .val (.long q2), .second, .val (.long q3), .second, .val (.long q4), .second, .val (.int p5), .val (.int (p5 &&& (63 : Int32))), .val (.int (((p5.toUInt32 >>> ((6 : Int32) &&& 31).toUInt32).toInt32) &&& (63 : Int32))), .val (.ref b325), .val (.ref b328), .unset, .unset, .unset, .unset, .unset, .unset, .unset, .unset, .unset, .unset, .unset, .unset, .unset, .unset, .unset, .unset, .unset, .unset, .unset, .unset, .unset] [(.ref b328), (.ref b325)])) _
    refine st357.trans ?_
    show Steps p.tables e below (T357.setTop (mkF m 69 #[.val (.long q0), .second, .val (.long q1), .second, .val (.long q2), .second, .val (.long q3), .second, .val (.long q4), .second, .val (.int p5), .val (.int (p5 &&& (63 : Int32))), .val (.int (((p5.toUInt32 >>> ((6 : Int32) &&& 31).toUInt32).toInt32) &&& (63 : Int32))), .val (.ref b325), .val (.ref b328), .unset, .unset, .unset, .unset, .unset, .unset, .unset, .unset, .unset, .unset, .unset, .unset, .unset, .unset, .unset, .unset, .unset, .unset, .unset, .unset, .unset] [])) _
    refine XS.aload X357.here hx rfl (hb hby at_69) rfl rfl ?_
    show Steps p.tables e below (T357.setTop (mkF m 71 #[.val (.long q0), .second, .val (.long q1), .second, .val (.long q2), .second, .val (.long q3), .second, .val (.long q4), .second, .val (.int p5), .val (.int (p5 &&& (63 : Int32))), .val (.int (((p5.toUInt32 >>> ((6 : Int32) &&& 31).toUInt32).toInt32) &&& (63 : Int32))), .val (.ref b325), .val (.ref b328), .unset, .unset, .unset, .unset, .unset, .unset, .unset, .unset, .unset, .unset, .unset, .unset, .unset, .unset, .unset, .unset, .unset, .unset, .unset, .unset, .unset] [(.ref b325)])) _
    refine XS.iconst X357.here hx rfl (hb hby at_71) ?_
    show Steps p.tables e below (T357.setTop (mkF m 72 #[.val (.long q0), .second, .val (.long q1), .second, .val (.long q2), .second, .val (.long q3), .second, .val (.long q4), .second, .val (.int p5), .val (.int (p5 &&& (63 : Int32))), .val (.int (((p5.toUInt32 >>> ((6 : Int32) &&& 31).toUInt32).toInt32) &&& (63 : Int32))), .val (.ref b325), .val (.ref b328), .unset, .unset, .unset, .unset, .unset, .unset, .unset, .unset, .unset, .unset, .unset, .unset, .unset, .unset, .unset, .unset, .unset, .unset, .unset, .unset, .unset] [(.int (0 : Int32)), (.ref b325)])) _
    refine XS.iconst X357.here hx rfl (hb hby at_72) ?_
    show Steps p.tables e below (T357.setTop (mkF m 73 #[.val (.long q0), .second, .val (.long q1), .second, .val (.long q2), .second, .val (.long q3), .second, .val (.long q4), .second, .val (.int p5), .val (.int (p5 &&& (63 : Int32))), .val (.int (((p5.toUInt32 >>> ((6 : Int32) &&& 31).toUInt32).toInt32) &&& (63 : Int32))), .val (.ref b325), .val (.ref b328), .unset, .unset, .unset, .unset, .unset, .unset, .unset, .unset, .unset, .unset, .unset, .unset, .unset, .unset, .unset, .unset, .unset, .unset, .unset, .unset, .unset] [(.int (0 : Int32)), (.int (0 : Int32)), (.ref b325)])) _
    refine XS.iconst X357.here hx rfl (hb hby at_73) ?_
    show Steps p.tables e below (T357.setTop (mkF m 74 #[.val (.long q0), .second, .val (.long q1), .second, .val (.long q2), .second, .val (.long q3), .second, .val (.long q4), .second, .val (.int p5), .val (.int (p5 &&& (63 : Int32))), .val (.int (((p5.toUInt32 >>> ((6 : Int32) &&& 31).toUInt32).toInt32) &&& (63 : Int32))), .val (.ref b325), .val (.ref b328), .unset, .unset, .unset, .unset, .unset, .unset, .unset, .unset, .unset, .unset, .unset, .unset, .unset, .unset, .unset, .unset, .unset, .unset, .unset, .unset, .unset] [(.int (0 : Int32)), (.int (0 : Int32)), (.int (0 : Int32)), (.ref b325)])) _
    refine st370.trans ?_
    show Steps p.tables e below (T370.setTop (mkF m 77 #[.val (.long q0), .second, .val (.long q1), .second, .val (.long q2), .second, .val (.long q3), .second, .val (.long q4), .second, .val (.int p5), .val (.int (p5 &&& (63 : Int32))), .val (.int (((p5.toUInt32 >>> ((6 : Int32) &&& 31).toUInt32).toInt32) &&& (63 : Int32))), .val (.ref b325), .val (.ref b328), .unset, .unset, .unset, .unset, .unset, .unset, .unset, .unset, .unset, .unset, .unset, .unset, .unset, .unset, .unset, .unset, .unset, .unset, .unset, .unset, .unset] [(.ref b_370)])) _
    refine XS.astore X370.here hx rfl (hb hby at_77) rfl rfl (l' := #[.val (.long q0), .second, .val (.long q1), .second, .val (.long q2), .second, .val (.long q3), .second, .val (.long q4), .second, .val (.int p5), .val (.int (p5 &&& (63 : Int32))), .val (.int (((p5.toUInt32 >>> ((6 : Int32) &&& 31).toUInt32).toInt32) &&& (63 : Int32))), .val (.ref b325), .val (.ref b328), .val (.ref b_370), .unset, .unset, .unset, .unset, .unset, .unset, .unset, .unset, .unset, .unset, .unset, .unset, .unset, .unset, .unset, .unset, .unset, .unset, .unset, .unset]) rfl ?_
    show Steps p.tables e below (T370.setTop (mkF m 79 #[.val (.long q0), .second, .val (.long q1), .second, .val (.long q2), .second, .val (.long q3), .second, .val (.long q4), .second, .val (.int p5), .val (.int (p5 &&& (63 : Int32))), .val (.int (((p5.toUInt32 >>> ((6 : Int32) &&& 31).toUInt32).toInt32) &&& (63 : Int32))), .val (.ref b325), .val (.ref b328), .val (.ref b_370), .unset, .unset, .unset, .unset, .unset, .unset, .unset, .unset, .unset, .unset, .unset, .unset, .unset, .unset, .unset, .unset, .unset, .unset, .unset, .unset] [])) _
    refine st372 _ ?_
    show Steps p.tables e below (T372.setTop (mkF m 144 #[.val (.long q0), .second, .val (.long q1), .second, .val (.long q2), .second, .val (.long q3), .second, .val (.long q4), .second, .val (.int p5), .val (.int (p5 &&& (63 : Int32))), .val (.int (((p5.toUInt32 >>> ((6 : Int32) &&& 31).toUInt32).toInt32) &&& (63 : Int32))), .val (.ref b325), .val (.ref b328), .val (.ref b_370), .val (.long v16_372), .second, .val (.long v18_372), .second, .val (.long v20_372), .second, .val (.long v22_372), .second, .unset, .unset, .unset, .unset, .unset, .unset, .unset, .unset, .unset, .unset, .unset, .unset] [])) _
    refine st374 _ ?_
    show Steps p.tables e below (T374.setTop (mkF m 208 #[.val (.long q0), .second, .val (.long q1), .second, .val (.long q2), .second, .val (.long q3), .second, .val (.long q4), .second, .val (.int p5), .val (.int (p5 &&& (63 : Int32))), .val (.int (((p5.toUInt32 >>> ((6 : Int32) &&& 31).toUInt32).toInt32) &&& (63 : Int32))), .val (.ref b325), .val (.ref b328), .val (.ref b_370), .val (.long v16_372), .second, .val (.long v18_372), .second, .val (.long v20_372), .second, .val (.long v22_372), .second, .val (.long v24_374), .second, .val (.long v26_374), .second, .val (.long v28_374), .second, .val (.long v30_374), .second, .unset, .unset, .unset, .unset] [])) _
    refine st376 _ ?_
    show Steps p.tables e below (T376.setTop (mkF m 248 #[.val (.long q0), .second, .val (.long q1), .second, .val (.long q2), .second, .val (.long q3), .second, .val (.long q4), .second, .val (.int p5), .val (.int (p5 &&& (63 : Int32))), .val (.int (((p5.toUInt32 >>> ((6 : Int32) &&& 31).toUInt32).toInt32) &&& (63 : Int32))), .val (.ref b325), .val (.ref b328), .val (.ref b_370), .val (.long v16_372), .second, .val (.long v18_372), .second, .val (.long v20_372), .second, .val (.long v22_372), .second, .val (.long v24_374), .second, .val (.long v26_374), .second, .val (.long v28_374), .second, .val (.long v30_374), .second, .val (.long v32_376), .second, .val (.long v34_376), .second] [])) _
    refine XS.aload X376.here hx rfl (hb hby at_248) rfl rfl ?_
    show Steps p.tables e below (T376.setTop (mkF m 250 #[.val (.long q0), .second, .val (.long q1), .second, .val (.long q2), .second, .val (.long q3), .second, .val (.long q4), .second, .val (.int p5), .val (.int (p5 &&& (63 : Int32))), .val (.int (((p5.toUInt32 >>> ((6 : Int32) &&& 31).toUInt32).toInt32) &&& (63 : Int32))), .val (.ref b325), .val (.ref b328), .val (.ref b_370), .val (.long v16_372), .second, .val (.long v18_372), .second, .val (.long v20_372), .second, .val (.long v22_372), .second, .val (.long v24_374), .second, .val (.long v26_374), .second, .val (.long v28_374), .second, .val (.long v30_374), .second, .val (.long v32_376), .second, .val (.long v34_376), .second] [(.ref b_370)])) _
    refine st378.trans ?_
    show Steps p.tables e below (T378.setTop (mkF m 253 #[.val (.long q0), .second, .val (.long q1), .second, .val (.long q2), .second, .val (.long q3), .second, .val (.long q4), .second, .val (.int p5), .val (.int (p5 &&& (63 : Int32))), .val (.int (((p5.toUInt32 >>> ((6 : Int32) &&& 31).toUInt32).toInt32) &&& (63 : Int32))), .val (.ref b325), .val (.ref b328), .val (.ref b_370), .val (.long v16_372), .second, .val (.long v18_372), .second, .val (.long v20_372), .second, .val (.long v22_372), .second, .val (.long v24_374), .second, .val (.long v26_374), .second, .val (.long v28_374), .second, .val (.long v30_374), .second, .val (.long v32_376), .second, .val (.long v34_376), .second] [(.long ((if ((p5 &&& (63 : Int32)) &&& (1 : Int32)) = (0 : Int32) then (0 : Int64) else ((0 : Int64) + (1 : Int64))) + (if ((((p5.toUInt32 >>> ((6 : Int32) &&& 31).toUInt32).toInt32) &&& (63 : Int32)) &&& (1 : Int32)) = (0 : Int32) then (0 : Int64) else ((0 : Int64) + (1 : Int64)))))])) _
    refine XS.lload X378.here hx rfl (hb hby at_253) rfl ?_
    show Steps p.tables e below (T378.setTop (mkF m 255 #[.val (.long q0), .second, .val (.long q1), .second, .val (.long q2), .second, .val (.long q3), .second, .val (.long q4), .second, .val (.int p5), .val (.int (p5 &&& (63 : Int32))), .val (.int (((p5.toUInt32 >>> ((6 : Int32) &&& 31).toUInt32).toInt32) &&& (63 : Int32))), .val (.ref b325), .val (.ref b328), .val (.ref b_370), .val (.long v16_372), .second, .val (.long v18_372), .second, .val (.long v20_372), .second, .val (.long v22_372), .second, .val (.long v24_374), .second, .val (.long v26_374), .second, .val (.long v28_374), .second, .val (.long v30_374), .second, .val (.long v32_376), .second, .val (.long v34_376), .second] [(.long v16_372), (.long ((if ((p5 &&& (63 : Int32)) &&& (1 : Int32)) = (0 : Int32) then (0 : Int64) else ((0 : Int64) + (1 : Int64))) + (if ((((p5.toUInt32 >>> ((6 : Int32) &&& 31).toUInt32).toInt32) &&& (63 : Int32)) &&& (1 : Int32)) = (0 : Int32) then (0 : Int64) else ((0 : Int64) + (1 : Int64)))))])) _
    refine XS.lcmp X378.here hx rfl (hb hby at_255) rfl ?_
    show Steps p.tables e below (T378.setTop (mkF m 256 #[.val (.long q0), .second, .val (.long q1), .second, .val (.long q2), .second, .val (.long q3), .second, .val (.long q4), .second, .val (.int p5), .val (.int (p5 &&& (63 : Int32))), .val (.int (((p5.toUInt32 >>> ((6 : Int32) &&& 31).toUInt32).toInt32) &&& (63 : Int32))), .val (.ref b325), .val (.ref b328), .val (.ref b_370), .val (.long v16_372), .second, .val (.long v18_372), .second, .val (.long v20_372), .second, .val (.long v22_372), .second, .val (.long v24_374), .second, .val (.long v26_374), .second, .val (.long v28_374), .second, .val (.long v30_374), .second, .val (.long v32_376), .second, .val (.long v34_376), .second] [(.int (lcmpW ((if ((p5 &&& (63 : Int32)) &&& (1 : Int32)) = (0 : Int32) then (0 : Int64) else ((0 : Int64) + (1 : Int64))) + (if ((((p5.toUInt32 >>> ((6 : Int32) &&& 31).toUInt32).toInt32) &&& (63 : Int32)) &&& (1 : Int32)) = (0 : Int32) then (0 : Int64) else ((0 : Int64) + (1 : Int64)))) v16_372))])) _
    refine XS.ifNo X378.here hx rfl (hb hby at_256) rfl ((if0 _ _).trans (teq ((lw_eq _ _).mpr (by rw [f372_0]; exact (own_add2 (own_cnt0 _) (own_cnt0 _))) : (lcmpW ((if ((p5 &&& (63 : Int32)) &&& (1 : Int32)) = (0 : Int32) then (0 : Int64) else ((0 : Int64) + (1 : Int64))) + (if ((((p5.toUInt32 >>> ((6 : Int32) &&& 31).toUInt32).toInt32) &&& (63 : Int32)) &&& (1 : Int32)) = (0 : Int32) then (0 : Int64) else ((0 : Int64) + (1 : Int64)))) v16_372) = (0 : Int32))).2) ?_
    show Steps p.tables e below (T378.setTop (mkF m 259 #[.val (.long q0), .second, .val (.long q1), .second, .val (.long q2), .second, .val (.long q3), .second, .val (.long q4), .second, .val (.int p5), .val (.int (p5 &&& (63 : Int32))), .val (.int (((p5.toUInt32 >>> ((6 : Int32) &&& 31).toUInt32).toInt32) &&& (63 : Int32))), .val (.ref b325), .val (.ref b328), .val (.ref b_370), .val (.long v16_372), .second, .val (.long v18_372), .second, .val (.long v20_372), .second, .val (.long v22_372), .second, .val (.long v24_374), .second, .val (.long v26_374), .second, .val (.long v28_374), .second, .val (.long v30_374), .second, .val (.long v32_376), .second, .val (.long v34_376), .second] [])) _
    refine XS.aload X378.here hx rfl (hb hby at_259) rfl rfl ?_
    show Steps p.tables e below (T378.setTop (mkF m 261 #[.val (.long q0), .second, .val (.long q1), .second, .val (.long q2), .second, .val (.long q3), .second, .val (.long q4), .second, .val (.int p5), .val (.int (p5 &&& (63 : Int32))), .val (.int (((p5.toUInt32 >>> ((6 : Int32) &&& 31).toUInt32).toInt32) &&& (63 : Int32))), .val (.ref b325), .val (.ref b328), .val (.ref b_370), .val (.long v16_372), .second, .val (.long v18_372), .second, .val (.long v20_372), .second, .val (.long v22_372), .second, .val (.long v24_374), .second, .val (.long v26_374), .second, .val (.long v28_374), .second, .val (.long v30_374), .second, .val (.long v32_376), .second, .val (.long v34_376), .second] [(.ref b_370)])) _
    refine st381.trans ?_
    show Steps p.tables e below (T381.setTop (mkF m 264 #[.val (.long q0), .second, .val (.long q1), .second, .val (.long q2), .second, .val (.long q3), .second, .val (.long q4), .second, .val (.int p5), .val (.int (p5 &&& (63 : Int32))), .val (.int (((p5.toUInt32 >>> ((6 : Int32) &&& 31).toUInt32).toInt32) &&& (63 : Int32))), .val (.ref b325), .val (.ref b328), .val (.ref b_370), .val (.long v16_372), .second, .val (.long v18_372), .second, .val (.long v20_372), .second, .val (.long v22_372), .second, .val (.long v24_374), .second, .val (.long v26_374), .second, .val (.long v28_374), .second, .val (.long v30_374), .second, .val (.long v32_376), .second, .val (.long v34_376), .second] [(.long (own_avg ((if ((p5 &&& (63 : Int32)) &&& (1 : Int32)) = (0 : Int32) then (0 : Int64) else ((0 : Int64) + q0)) + (if ((((p5.toUInt32 >>> ((6 : Int32) &&& 31).toUInt32).toInt32) &&& (63 : Int32)) &&& (1 : Int32)) = (0 : Int32) then (0 : Int64) else ((0 : Int64) + q1))) ((if ((p5 &&& (63 : Int32)) &&& (1 : Int32)) = (0 : Int32) then (0 : Int64) else ((0 : Int64) + (1 : Int64))) + (if ((((p5.toUInt32 >>> ((6 : Int32) &&& 31).toUInt32).toInt32) &&& (63 : Int32)) &&& (1 : Int32)) = (0 : Int32) then (0 : Int64) else ((0 : Int64) + (1 : Int64))))))])) _
    refine XS.lload X381.here hx rfl (hb hby at_264) rfl ?_
    show Steps p.tables e below (T381.setTop (mkF m 266 #[.val (.long q0), .second, .val (.long q1), .second, .val (.long q2), .second, .val (.long q3), .second, .val (.long q4), .second, .val (.int p5), .val (.int (p5 &&& (63 : Int32))), .val (.int (((p5.toUInt32 >>> ((6 : Int32) &&& 31).toUInt32).toInt32) &&& (63 : Int32))), .val (.ref b325), .val (.ref b328), .val (.ref b_370), .val (.long v16_372), .second, .val (.long v18_372), .second, .val (.long v20_372), .second, .val (.long v22_372), .second, .val (.long v24_374), .second, .val (.long v26_374), .second, .val (.long v28_374), .second, .val (.long v30_374), .second, .val (.long v32_376), .second, .val (.long v34_376), .second] [(.long v18_372), (.long (own_avg ((if ((p5 &&& (63 : Int32)) &&& (1 : Int32)) = (0 : Int32) then (0 : Int64) else ((0 : Int64) + q0)) + (if ((((p5.toUInt32 >>> ((6 : Int32) &&& 31).toUInt32).toInt32) &&& (63 : Int32)) &&& (1 : Int32)) = (0 : Int32) then (0 : Int64) else ((0 : Int64) + q1))) ((if ((p5 &&& (63 : Int32)) &&& (1 : Int32)) = (0 : Int32) then (0 : Int64) else ((0 : Int64) + (1 : Int64))) + (if ((((p5.toUInt32 >>> ((6 : Int32) &&& 31).toUInt32).toInt32) &&& (63 : Int32)) &&& (1 : Int32)) = (0 : Int32) then (0 : Int64) else ((0 : Int64) + (1 : Int64))))))])) _
    refine XS.lload X381.here hx rfl (hb hby at_266) rfl ?_
    show Steps p.tables e below (T381.setTop (mkF m 268 #[.val (.long q0), .second, .val (.long q1), .second, .val (.long q2), .second, .val (.long q3), .second, .val (.long q4), .second, .val (.int p5), .val (.int (p5 &&& (63 : Int32))), .val (.int (((p5.toUInt32 >>> ((6 : Int32) &&& 31).toUInt32).toInt32) &&& (63 : Int32))), .val (.ref b325), .val (.ref b328), .val (.ref b_370), .val (.long v16_372), .second, .val (.long v18_372), .second, .val (.long v20_372), .second, .val (.long v22_372), .second, .val (.long v24_374), .second, .val (.long v26_374), .second, .val (.long v28_374), .second, .val (.long v30_374), .second, .val (.long v32_376), .second, .val (.long v34_376), .second] [(.long v16_372), (.long v18_372), (.long (own_avg ((if ((p5 &&& (63 : Int32)) &&& (1 : Int32)) = (0 : Int32) then (0 : Int64) else ((0 : Int64) + q0)) + (if ((((p5.toUInt32 >>> ((6 : Int32) &&& 31).toUInt32).toInt32) &&& (63 : Int32)) &&& (1 : Int32)) = (0 : Int32) then (0 : Int64) else ((0 : Int64) + q1))) ((if ((p5 &&& (63 : Int32)) &&& (1 : Int32)) = (0 : Int32) then (0 : Int64) else ((0 : Int64) + (1 : Int64))) + (if ((((p5.toUInt32 >>> ((6 : Int32) &&& 31).toUInt32).toInt32) &&& (63 : Int32)) &&& (1 : Int32)) = (0 : Int32) then (0 : Int64) else ((0 : Int64) + (1 : Int64))))))])) _
    refine st383 _ ?_
    show Steps p.tables e below (T383.setTop (mkF m 271 #[.val (.long q0), .second, .val (.long q1), .second, .val (.long q2), .second, .val (.long q3), .second, .val (.long q4), .second, .val (.int p5), .val (.int (p5 &&& (63 : Int32))), .val (.int (((p5.toUInt32 >>> ((6 : Int32) &&& 31).toUInt32).toInt32) &&& (63 : Int32))), .val (.ref b325), .val (.ref b328), .val (.ref b_370), .val (.long v16_372), .second, .val (.long v18_372), .second, .val (.long v20_372), .second, .val (.long v22_372), .second, .val (.long v24_374), .second, .val (.long v26_374), .second, .val (.long v28_374), .second, .val (.long v30_374), .second, .val (.long v32_376), .second, .val (.long v34_376), .second] [(.long (own_avg v18_372 v16_372)), (.long (own_avg ((if ((p5 &&& (63 : Int32)) &&& (1 : Int32)) = (0 : Int32) then (0 : Int64) else ((0 : Int64) + q0)) + (if ((((p5.toUInt32 >>> ((6 : Int32) &&& 31).toUInt32).toInt32) &&& (63 : Int32)) &&& (1 : Int32)) = (0 : Int32) then (0 : Int64) else ((0 : Int64) + q1))) ((if ((p5 &&& (63 : Int32)) &&& (1 : Int32)) = (0 : Int32) then (0 : Int64) else ((0 : Int64) + (1 : Int64))) + (if ((((p5.toUInt32 >>> ((6 : Int32) &&& 31).toUInt32).toInt32) &&& (63 : Int32)) &&& (1 : Int32)) = (0 : Int32) then (0 : Int64) else ((0 : Int64) + (1 : Int64))))))])) _
    refine XS.lcmp X383.here hx rfl (hb hby at_271) rfl ?_
    show Steps p.tables e below (T383.setTop (mkF m 272 #[.val (.long q0), .second, .val (.long q1), .second, .val (.long q2), .second, .val (.long q3), .second, .val (.long q4), .second, .val (.int p5), .val (.int (p5 &&& (63 : Int32))), .val (.int (((p5.toUInt32 >>> ((6 : Int32) &&& 31).toUInt32).toInt32) &&& (63 : Int32))), .val (.ref b325), .val (.ref b328), .val (.ref b_370), .val (.long v16_372), .second, .val (.long v18_372), .second, .val (.long v20_372), .second, .val (.long v22_372), .second, .val (.long v24_374), .second, .val (.long v26_374), .second, .val (.long v28_374), .second, .val (.long v30_374), .second, .val (.long v32_376), .second, .val (.long v34_376), .second] [(.int (lcmpW (own_avg ((if ((p5 &&& (63 : Int32)) &&& (1 : Int32)) = (0 : Int32) then (0 : Int64) else ((0 : Int64) + q0)) + (if ((((p5.toUInt32 >>> ((6 : Int32) &&& 31).toUInt32).toInt32) &&& (63 : Int32)) &&& (1 : Int32)) = (0 : Int32) then (0 : Int64) else ((0 : Int64) + q1))) ((if ((p5 &&& (63 : Int32)) &&& (1 : Int32)) = (0 : Int32) then (0 : Int64) else ((0 : Int64) + (1 : Int64))) + (if ((((p5.toUInt32 >>> ((6 : Int32) &&& 31).toUInt32).toInt32) &&& (63 : Int32)) &&& (1 : Int32)) = (0 : Int32) then (0 : Int64) else ((0 : Int64) + (1 : Int64))))) (own_avg v18_372 v16_372)))])) _
    refine XS.ifNo X383.here hx rfl (hb hby at_272) rfl ((if0 _ _).trans (teq ((lw_eq _ _).mpr (by rw [f372_1, f372_0]; exact (own_avg2 (own_add2 (own_nan0 _ _) (own_nan0 _ _)) (own_add2 (own_cnt0 _) (own_cnt0 _)))) : (lcmpW (own_avg ((if ((p5 &&& (63 : Int32)) &&& (1 : Int32)) = (0 : Int32) then (0 : Int64) else ((0 : Int64) + q0)) + (if ((((p5.toUInt32 >>> ((6 : Int32) &&& 31).toUInt32).toInt32) &&& (63 : Int32)) &&& (1 : Int32)) = (0 : Int32) then (0 : Int64) else ((0 : Int64) + q1))) ((if ((p5 &&& (63 : Int32)) &&& (1 : Int32)) = (0 : Int32) then (0 : Int64) else ((0 : Int64) + (1 : Int64))) + (if ((((p5.toUInt32 >>> ((6 : Int32) &&& 31).toUInt32).toInt32) &&& (63 : Int32)) &&& (1 : Int32)) = (0 : Int32) then (0 : Int64) else ((0 : Int64) + (1 : Int64))))) (own_avg v18_372 v16_372)) = (0 : Int32))).2) ?_
    show Steps p.tables e below (T383.setTop (mkF m 275 #[.val (.long q0), .second, .val (.long q1), .second, .val (.long q2), .second, .val (.long q3), .second, .val (.long q4), .second, .val (.int p5), .val (.int (p5 &&& (63 : Int32))), .val (.int (((p5.toUInt32 >>> ((6 : Int32) &&& 31).toUInt32).toInt32) &&& (63 : Int32))), .val (.ref b325), .val (.ref b328), .val (.ref b_370), .val (.long v16_372), .second, .val (.long v18_372), .second, .val (.long v20_372), .second, .val (.long v22_372), .second, .val (.long v24_374), .second, .val (.long v26_374), .second, .val (.long v28_374), .second, .val (.long v30_374), .second, .val (.long v32_376), .second, .val (.long v34_376), .second] [])) _
    refine XS.aload X383.here hx rfl (hb hby at_275) rfl rfl ?_
    show Steps p.tables e below (T383.setTop (mkF m 277 #[.val (.long q0), .second, .val (.long q1), .second, .val (.long q2), .second, .val (.long q3), .second, .val (.long q4), .second, .val (.int p5), .val (.int (p5 &&& (63 : Int32))), .val (.int (((p5.toUInt32 >>> ((6 : Int32) &&& 31).toUInt32).toInt32) &&& (63 : Int32))), .val (.ref b325), .val (.ref b328), .val (.ref b_370), .val (.long v16_372), .second, .val (.long v18_372), .second, .val (.long v20_372), .second, .val (.long v22_372), .second, .val (.long v24_374), .second, .val (.long v26_374), .second, .val (.long v28_374), .second, .val (.long v30_374), .second, .val (.long v32_376), .second, .val (.long v34_376), .second] [(.ref b_370)])) _
    refine st384.trans ?_
    show Steps p.tables e below (T384.setTop (mkF m 280 #[.val (.long q0), .second, .val (.long q1), .second, .val (.long q2), .second, .val (.long q3), .second, .val (.long q4), .second, .val (.int p5), .val (.int (p5 &&& (63 : Int32))), .val (.int (((p5.toUInt32 >>> ((6 : Int32) &&& 31).toUInt32).toInt32) &&& (63 : Int32))), .val (.ref b325), .val (.ref b328), .val (.ref b_370), .val (.long v16_372), .second, .val (.long v18_372), .second, .val (.long v20_372), .second, .val (.long v22_372), .second, .val (.long v24_374), .second, .val (.long v26_374), .second, .val (.long v28_374), .second, .val (.long v30_374), .second, .val (.long v32_376), .second, .val (.long v34_376), .second] [(.long ((if ((p5 &&& (63 : Int32)) &&& (2 : Int32)) = (0 : Int32) then (0 : Int64) else ((0 : Int64) + (1 : Int64))) + (if ((((p5.toUInt32 >>> ((6 : Int32) &&& 31).toUInt32).toInt32) &&& (63 : Int32)) &&& (2 : Int32)) = (0 : Int32) then (0 : Int64) else ((0 : Int64) + (1 : Int64)))))])) _
    refine XS.lload X384.here hx rfl (hb hby at_280) rfl ?_
    show Steps p.tables e below (T384.setTop (mkF m 282 #[.val (.long q0), .second, .val (.long q1), .second, .val (.long q2), .second, .val (.long q3), .second, .val (.long q4), .second, .val (.int p5), .val (.int (p5 &&& (63 : Int32))), .val (.int (((p5.toUInt32 >>> ((6 : Int32) &&& 31).toUInt32).toInt32) &&& (63 : Int32))), .val (.ref b325), .val (.ref b328), .val (.ref b_370), .val (.long v16_372), .second, .val (.long v18_372), .second, .val (.long v20_372), .second, .val (.long v22_372), .second, .val (.long v24_374), .second, .val (.long v26_374), .second, .val (.long v28_374), .second, .val (.long v30_374), .second, .val (.long v32_376), .second, .val (.long v34_376), .second] [(.long v20_372), (.long ((if ((p5 &&& (63 : Int32)) &&& (2 : Int32)) = (0 : Int32) then (0 : Int64) else ((0 : Int64) + (1 : Int64))) + (if ((((p5.toUInt32 >>> ((6 : Int32) &&& 31).toUInt32).toInt32) &&& (63 : Int32)) &&& (2 : Int32)) = (0 : Int32) then (0 : Int64) else ((0 : Int64) + (1 : Int64)))))])) _
    refine XS.lcmp X384.here hx rfl (hb hby at_282) rfl ?_
    show Steps p.tables e below (T384.setTop (mkF m 283 #[.val (.long q0), .second, .val (.long q1), .second, .val (.long q2), .second, .val (.long q3), .second, .val (.long q4), .second, .val (.int p5), .val (.int (p5 &&& (63 : Int32))), .val (.int (((p5.toUInt32 >>> ((6 : Int32) &&& 31).toUInt32).toInt32) &&& (63 : Int32))), .val (.ref b325), .val (.ref b328), .val (.ref b_370), .val (.long v16_372), .second, .val (.long v18_372), .second, .val (.long v20_372), .second, .val (.long v22_372), .second, .val (.long v24_374), .second, .val (.long v26_374), .second, .val (.long v28_374), .second, .val (.long v30_374), .second, .val (.long v32_376), .second, .val (.long v34_376), .second] [(.int (lcmpW ((if ((p5 &&& (63 : Int32)) &&& (2 : Int32)) = (0 : Int32) then (0 : Int64) else ((0 : Int64) + (1 : Int64))) + (if ((((p5.toUInt32 >>> ((6 : Int32) &&& 31).toUInt32).toInt32) &&& (63 : Int32)) &&& (2 : Int32)) = (0 : Int32) then (0 : Int64) else ((0 : Int64) + (1 : Int64)))) v20_372))])) _
    refine XS.ifNo X384.here hx rfl (hb hby at_283) rfl ((if0 _ _).trans (teq ((lw_eq _ _).mpr (by rw [f372_2]; exact (own_add2 (own_cnt1 _) (own_cnt1 _))) : (lcmpW ((if ((p5 &&& (63 : Int32)) &&& (2 : Int32)) = (0 : Int32) then (0 : Int64) else ((0 : Int64) + (1 : Int64))) + (if ((((p5.toUInt32 >>> ((6 : Int32) &&& 31).toUInt32).toInt32) &&& (63 : Int32)) &&& (2 : Int32)) = (0 : Int32) then (0 : Int64) else ((0 : Int64) + (1 : Int64)))) v20_372) = (0 : Int32))).2) ?_
    show Steps p.tables e below (T384.setTop (mkF m 286 #[.val (.long q0), .second, .val (.long q1), .second, .val (.long q2), .second, .val (.long q3), .second, .val (.long q4), .second, .val (.int p5), .val (.int (p5 &&& (63 : Int32))), .val (.int (((p5.toUInt32 >>> ((6 : Int32) &&& 31).toUInt32).toInt32) &&& (63 : Int32))), .val (.ref b325), .val (.ref b328), .val (.ref b_370), .val (.long v16_372), .second, .val (.long v18_372), .second, .val (.long v20_372), .second, .val (.long v22_372), .second, .val (.long v24_374), .second, .val (.long v26_374), .second, .val (.long v28_374), .second, .val (.long v30_374), .second, .val (.long v32_376), .second, .val (.long v34_376), .second] [])) _
    refine XS.aload X384.here hx rfl (hb hby at_286) rfl rfl ?_
    show Steps p.tables e below (T384.setTop (mkF m 288 #[.val (.long q0), .second, .val (.long q1), .second, .val (.long q2), .second, .val (.long q3), .second, .val (.long q4), .second, .val (.int p5), .val (.int (p5 &&& (63 : Int32))), .val (.int (((p5.toUInt32 >>> ((6 : Int32) &&& 31).toUInt32).toInt32) &&& (63 : Int32))), .val (.ref b325), .val (.ref b328), .val (.ref b_370), .val (.long v16_372), .second, .val (.long v18_372), .second, .val (.long v20_372), .second, .val (.long v22_372), .second, .val (.long v24_374), .second, .val (.long v26_374), .second, .val (.long v28_374), .second, .val (.long v30_374), .second, .val (.long v32_376), .second, .val (.long v34_376), .second] [(.ref b_370)])) _
    refine st386.trans ?_
    show Steps p.tables e below (T386.setTop (mkF m 291 #[.val (.long q0), .second, .val (.long q1), .second, .val (.long q2), .second, .val (.long q3), .second, .val (.long q4), .second, .val (.int p5), .val (.int (p5 &&& (63 : Int32))), .val (.int (((p5.toUInt32 >>> ((6 : Int32) &&& 31).toUInt32).toInt32) &&& (63 : Int32))), .val (.ref b325), .val (.ref b328), .val (.ref b_370), .val (.long v16_372), .second, .val (.long v18_372), .second, .val (.long v20_372), .second, .val (.long v22_372), .second, .val (.long v24_374), .second, .val (.long v26_374), .second, .val (.long v28_374), .second, .val (.long v30_374), .second, .val (.long v32_376), .second, .val (.long v34_376), .second] [(.long (own_avg ((if ((p5 &&& (63 : Int32)) &&& (2 : Int32)) = (0 : Int32) then (0 : Int64) else ((0 : Int64) + q1)) + (if ((((p5.toUInt32 >>> ((6 : Int32) &&& 31).toUInt32).toInt32) &&& (63 : Int32)) &&& (2 : Int32)) = (0 : Int32) then (0 : Int64) else ((0 : Int64) + q2))) ((if ((p5 &&& (63 : Int32)) &&& (2 : Int32)) = (0 : Int32) then (0 : Int64) else ((0 : Int64) + (1 : Int64))) + (if ((((p5.toUInt32 >>> ((6 : Int32) &&& 31).toUInt32).toInt32) &&& (63 : Int32)) &&& (2 : Int32)) = (0 : Int32) then (0 : Int64) else ((0 : Int64) + (1 : Int64))))))])) _
    refine XS.lload X386.here hx rfl (hb hby at_291) rfl ?_
    show Steps p.tables e below (T386.setTop (mkF m 293 #[.val (.long q0), .second, .val (.long q1), .second, .val (.long q2), .second, .val (.long q3), .second, .val (.long q4), .second, .val (.int p5), .val (.int (p5 &&& (63 : Int32))), .val (.int (((p5.toUInt32 >>> ((6 : Int32) &&& 31).toUInt32).toInt32) &&& (63 : Int32))), .val (.ref b325), .val (.ref b328), .val (.ref b_370), .val (.long v16_372), .second, .val (.long v18_372), .second, .val (.long v20_372), .second, .val (.long v22_372), .second, .val (.long v24_374), .second, .val (.long v26_374), .second, .val (.long v28_374), .second, .val (.long v30_374), .second, .val (.long v32_376), .second, .val (.long v34_376), .second] [(.long v22_372), (.long (own_avg ((if ((p5 &&& (63 : Int32)) &&& (2 : Int32)) = (0 : Int32) then (0 : Int64) else ((0 : Int64) + q1)) + (if ((((p5.toUInt32 >>> ((6 : Int32) &&& 31).toUInt32).toInt32) &&& (63 : Int32)) &&& (2 : Int32)) = (0 : Int32) then (0 : Int64) else ((0 : Int64) + q2))) ((if ((p5 &&& (63 : Int32)) &&& (2 : Int32)) = (0 : Int32) then (0 : Int64) else ((0 : Int64) + (1 : Int64))) + (if ((((p5.toUInt32 >>> ((6 : Int32) &&& 31).toUInt32).toInt32) &&& (63 : Int32)) &&& (2 : Int32)) = (0 : Int32) then (0 : Int64) else ((0 : Int64) + (1 : Int64))))))])) _
    refine XS.lload X386.here hx rfl (hb hby at_293) rfl ?_
    show Steps p.tables e below (T386.setTop (mkF m 295 #[.val (.long q0), .second, .val (.long q1), .second, .val (.long q2), .second, .val (.long q3), .second, .val (.long q4), .second, .val (.int p5), .val (.int (p5 &&& (63 : Int32))), .val (.int (((p5.toUInt32 >>> ((6 : Int32) &&& 31).toUInt32).toInt32) &&& (63 : Int32))), .val (.ref b325), .val (.ref b328), .val (.ref b_370), .val (.long v16_372), .second, .val (.long v18_372), .second, .val (.long v20_372), .second, .val (.long v22_372), .second, .val (.long v24_374), .second, .val (.long v26_374), .second, .val (.long v28_374), .second, .val (.long v30_374), .second, .val (.long v32_376), .second, .val (.long v34_376), .second] [(.long v20_372), (.long v22_372), (.long (own_avg ((if ((p5 &&& (63 : Int32)) &&& (2 : Int32)) = (0 : Int32) then (0 : Int64) else ((0 : Int64) + q1)) + (if ((((p5.toUInt32 >>> ((6 : Int32) &&& 31).toUInt32).toInt32) &&& (63 : Int32)) &&& (2 : Int32)) = (0 : Int32) then (0 : Int64) else ((0 : Int64) + q2))) ((if ((p5 &&& (63 : Int32)) &&& (2 : Int32)) = (0 : Int32) then (0 : Int64) else ((0 : Int64) + (1 : Int64))) + (if ((((p5.toUInt32 >>> ((6 : Int32) &&& 31).toUInt32).toInt32) &&& (63 : Int32)) &&& (2 : Int32)) = (0 : Int32) then (0 : Int64) else ((0 : Int64) + (1 : Int64))))))])) _
    refine st388 _ ?_
    show Steps p.tables e below (T388.setTop (mkF m 298 #[.val (.long q0), .second, .val (.long q1), .second, .val (.long q2), .second, .val (.long q3), .second, .val (.long q4), .second, .val (.int p5), .val (.int (p5 &&& (63 : Int32))), .val (.int (((p5.toUInt32 >>> ((6 : Int32) &&& 31).toUInt32).toInt32) &&& (63 : Int32))), .val (.ref b325), .val (.ref b328), .val (.ref b_370), .val (.long v16_372), .second, .val (.long v18_372), .second, .val (.long v20_372), .second, .val (.long v22_372), .second, .val (.long v24_374), .second, .val (.long v26_374), .second, .val (.long v28_374), .second, .val (.long v30_374), .second, .val (.long v32_376), .second, .val (.long v34_376), .second] [(.long (own_avg v22_372 v20_372)), (.long (own_avg ((if ((p5 &&& (63 : Int32)) &&& (2 : Int32)) = (0 : Int32) then (0 : Int64) else ((0 : Int64) + q1)) + (if ((((p5.toUInt32 >>> ((6 : Int32) &&& 31).toUInt32).toInt32) &&& (63 : Int32)) &&& (2 : Int32)) = (0 : Int32) then (0 : Int64) else ((0 : Int64) + q2))) ((if ((p5 &&& (63 : Int32)) &&& (2 : Int32)) = (0 : Int32) then (0 : Int64) else ((0 : Int64) + (1 : Int64))) + (if ((((p5.toUInt32 >>> ((6 : Int32) &&& 31).toUInt32).toInt32) &&& (63 : Int32)) &&& (2 : Int32)) = (0 : Int32) then (0 : Int64) else ((0 : Int64) + (1 : Int64))))))])) _
    refine XS.lcmp X388.here hx rfl (hb hby at_298) rfl ?_
    show Steps p.tables e below (T388.setTop (mkF m 299 #[.val (.long q0), .second, .val (.long q1), .second, .val (.long q2), .second, .val (.long q3), .second, .val (.long q4), .second, .val (.int p5), .val (.int (p5 &&& (63 : Int32))), .val (.int (((p5.toUInt32 >>> ((6 : Int32) &&& 31).toUInt32).toInt32) &&& (63 : Int32))), .val (.ref b325), .val (.ref b328), .val (.ref b_370), .val (.long v16_372), .second, .val (.long v18_372), .second, .val (.long v20_372), .second, .val (.long v22_372), .second, .val (.long v24_374), .second, .val (.long v26_374), .second, .val (.long v28_374), .second, .val (.long v30_374), .second, .val (.long v32_376), .second, .val (.long v34_376), .second] [(.int (lcmpW (own_avg ((if ((p5 &&& (63 : Int32)) &&& (2 : Int32)) = (0 : Int32) then (0 : Int64) else ((0 : Int64) + q1)) + (if ((((p5.toUInt32 >>> ((6 : Int32) &&& 31).toUInt32).toInt32) &&& (63 : Int32)) &&& (2 : Int32)) = (0 : Int32) then (0 : Int64) else ((0 : Int64) + q2))) ((if ((p5 &&& (63 : Int32)) &&& (2 : Int32)) = (0 : Int32) then (0 : Int64) else ((0 : Int64) + (1 : Int64))) + (if ((((p5.toUInt32 >>> ((6 : Int32) &&& 31).toUInt32).toInt32) &&& (63 : Int32)) &&& (2 : Int32)) = (0 : Int32) then (0 : Int64) else ((0 : Int64) + (1 : Int64))))) (own_avg v22_372 v20_372)))])) _
    refine XS.ifNo X388.here hx rfl (hb hby at_299) rfl ((if0 _ _).trans (teq ((lw_eq _ _).mpr (by rw [f372_3, f372_2]; exact (own_avg2 (own_add2 (own_nan1 _ _) (own_nan1 _ _)) (own_add2 (own_cnt1 _) (own_cnt1 _)))) : (lcmpW (own_avg ((if ((p5 &&& (63 : Int32)) &&& (2 : Int32)) = (0 : Int32) then (0 : Int64) else ((0 : Int64) + q1)) + (if ((((p5.toUInt32 >>> ((6 : Int32) &&& 31).toUInt32).toInt32) &&& (63 : Int32)) &&& (2 : Int32)) = (0 : Int32) then (0 : Int64) else ((0 : Int64) + q2))) ((if ((p5 &&& (63 : Int32)) &&& (2 : Int32)) = (0 : Int32) then (0 : Int64) else ((0 : Int64) + (1 : Int64))) + (if ((((p5.toUInt32 >>> ((6 : Int32) &&& 31).toUInt32).toInt32) &&& (63 : Int32)) &&& (2 : Int32)) = (0 : Int32) then (0 : Int64) else ((0 : Int64) + (1 : Int64))))) (own_avg v22_372 v20_372)) = (0 : Int32))).2) ?_
    show Steps p.tables e below (T388.setTop (mkF m 302 #[.val (.long q0), .second, .val (.long q1), .second, .val (.long q2), .second, .val (.long q3), .second, .val (.long q4), .second, .val (.int p5), .val (.int (p5 &&& (63 : Int32))), .val (.int (((p5.toUInt32 >>> ((6 : Int32) &&& 31).toUInt32).toInt32) &&& (63 : Int32))), .val (.ref b325), .val (.ref b328), .val (.ref b_370), .val (.long v16_372), .second, .val (.long v18_372), .second, .val (.long v20_372), .second, .val (.long v22_372), .second, .val (.long v24_374), .second, .val (.long v26_374), .second, .val (.long v28_374), .second, .val (.long v30_374), .second, .val (.long v32_376), .second, .val (.long v34_376), .second] [])) _
    refine XS.aload X388.here hx rfl (hb hby at_302) rfl rfl ?_
    show Steps p.tables e below (T388.setTop (mkF m 304 #[.val (.long q0), .second, .val (.long q1), .second, .val (.long q2), .second, .val (.long q3), .second, .val (.long q4), .second, .val (.int p5), .val (.int (p5 &&& (63 : Int32))), .val (.int (((p5.toUInt32 >>> ((6 : Int32) &&& 31).toUInt32).toInt32) &&& (63 : Int32))), .val (.ref b325), .val (.ref b328), .val (.ref b_370), .val (.long v16_372), .second, .val (.long v18_372), .second, .val (.long v20_372), .second, .val (.long v22_372), .second, .val (.long v24_374), .second, .val (.long v26_374), .second, .val (.long v28_374), .second, .val (.long v30_374), .second, .val (.long v32_376), .second, .val (.long v34_376), .second] [(.ref b_370)])) _
    refine st389.trans ?_
    show Steps p.tables e below (T389.setTop (mkF m 307 #[.val (.long q0), .second, .val (.long q1), .second, .val (.long q2), .second, .val (.long q3), .second, .val (.long q4), .second, .val (.int p5), .val (.int (p5 &&& (63 : Int32))), .val (.int (((p5.toUInt32 >>> ((6 : Int32) &&& 31).toUInt32).toInt32) &&& (63 : Int32))), .val (.ref b325), .val (.ref b328), .val (.ref b_370), .val (.long v16_372), .second, .val (.long v18_372), .second, .val (.long v20_372), .second, .val (.long v22_372), .second, .val (.long v24_374), .second, .val (.long v26_374), .second, .val (.long v28_374), .second, .val (.long v30_374), .second, .val (.long v32_376), .second, .val (.long v34_376), .second] [(.long ((if ((p5 &&& (63 : Int32)) &&& (4 : Int32)) = (0 : Int32) then (0 : Int64) else ((0 : Int64) + (1 : Int64))) + (if ((((p5.toUInt32 >>> ((6 : Int32) &&& 31).toUInt32).toInt32) &&& (63 : Int32)) &&& (4 : Int32)) = (0 : Int32) then (0 : Int64) else ((0 : Int64) + (1 : Int64)))))])) _
    refine XS.lload X389.here hx rfl (hb hby at_307) rfl ?_
    show Steps p.tables e below (T389.setTop (mkF m 309 #[.val (.long q0), .second, .val (.long q1), .second, .val (.long q2), .second, .val (.long q3), .second, .val (.long q4), .second, .val (.int p5), .val (.int (p5 &&& (63 : Int32))), .val (.int (((p5.toUInt32 >>> ((6 : Int32) &&& 31).toUInt32).toInt32) &&& (63 : Int32))), .val (.ref b325), .val (.ref b328), .val (.ref b_370), .val (.long v16_372), .second, .val (.long v18_372), .second, .val (.long v20_372), .second, .val (.long v22_372), .second, .val (.long v24_374), .second, .val (.long v26_374), .second, .val (.long v28_374), .second, .val (.long v30_374), .second, .val (.long v32_376), .second, .val (.long v34_376), .second] [(.long v24_374), (.long ((if ((p5 &&& (63 : Int32)) &&& (4 : Int32)) = (0 : Int32) then (0 : Int64) else ((0 : Int64) + (1 : Int64))) + (if ((((p5.toUInt32 >>> ((6 : Int32) &&& 31).toUInt32).toInt32) &&& (63 : Int32)) &&& (4 : Int32)) = (0 : Int32) then (0 : Int64) else ((0 : Int64) + (1 : Int64)))))])) _
    refine XS.lcmp X389.here hx rfl (hb hby at_309) rfl ?_
    show Steps p.tables e below (T389.setTop (mkF m 310 #[.val (.long q0), .second, .val (.long q1), .second, .val (.long q2), .second, .val (.long q3), .second, .val (.long q4), .second, .val (.int p5), .val (.int (p5 &&& (63 : Int32))), .val (.int (((p5.toUInt32 >>> ((6 : Int32) &&& 31).toUInt32).toInt32) &&& (63 : Int32))), .val (.ref b325), .val (.ref b328), .val (.ref b_370), .val (.long v16_372), .second, .val (.long v18_372), .second, .val (.long v20_372), .second, .val (.long v22_372), .second, .val (.long v24_374), .second, .val (.long v26_374), .second, .val (.long v28_374), .second, .val (.long v30_374), .second, .val (.long v32_376), .second, .val (.long v34_376), .second] [(.int (lcmpW ((if ((p5 &&& (63 : Int32)) &&& (4 : Int32)) = (0 : Int32) then (0 : Int64) else ((0 : Int64) + (1 : Int64))) + (if ((((p5.toUInt32 >>> ((6 : Int32) &&& 31).toUInt32).toInt32) &&& (63 : Int32)) &&& (4 : Int32)) = (0 : Int32) then (0 : Int64) else ((0 : Int64) + (1 : Int64)))) v24_374))])) _
    refine XS.ifNo X389.here hx rfl (hb hby at_310) rfl ((if0 _ _).trans (teq ((lw_eq _ _).mpr (by rw [f374_0]; exact (own_add2 (own_cnt2 _) (own_cnt2 _))) : (lcmpW ((if ((p5 &&& (63 : Int32)) &&& (4 : Int32)) = (0 : Int32) then (0 : Int64) else ((0 : Int64) + (1 : Int64))) + (if ((((p5.toUInt32 >>> ((6 : Int32) &&& 31).toUInt32).toInt32) &&& (63 : Int32)) &&& (4 : Int32)) = (0 : Int32) then (0 : Int64) else ((0 : Int64) + (1 : Int64)))) v24_374) = (0 : Int32))).2) ?_
    show Steps p.tables e below (T389.setTop (mkF m 313 #[.val (.long q0), .second, .val (.long q1), .second, .val (.long q2), .second, .val (.long q3), .second, .val (.long q4), .second, .val (.int p5), .val (.int (p5 &&& (63 : Int32))), .val (.int (((p5.toUInt32 >>> ((6 : Int32) &&& 31).toUInt32).toInt32) &&& (63 : Int32))), .val (.ref b325), .val (.ref b328), .val (.ref b_370), .val (.long v16_372), .second, .val (.long v18_372), .second, .val (.long v20_372), .second, .val (.long v22_372), .second, .val (.long v24_374), .second, .val (.long v26_374), .second, .val (.long v28_374), .second, .val (.long v30_374), .second, .val (.long v32_376), .second, .val (.long v34_376), .second] [])) _
    refine XS.aload X389.here hx rfl (hb hby at_313) rfl rfl ?_
    show Steps p.tables e below (T389.setTop (mkF m 315 #[.val (.long q0), .second, .val (.long q1), .second, .val (.long q2), .second, .val (.long q3), .second, .val (.long q4), .second, .val (.int p5), .val (.int (p5 &&& (63 : Int32))), .val (.int (((p5.toUInt32 >>> ((6 : Int32) &&& 31).toUInt32).toInt32) &&& (63 : Int32))), .val (.ref b325), .val (.ref b328), .val (.ref b_370), .val (.long v16_372), .second, .val (.long v18_372), .second, .val (.long v20_372), .second, .val (.long v22_372), .second, .val (.long v24_374), .second, .val (.long v26_374), .second, .val (.long v28_374), .second, .val (.long v30_374), .second, .val (.long v32_376), .second, .val (.long v34_376), .second] [(.ref b_370)])) _
    refine st391.trans ?_
    show Steps p.tables e below (T391.setTop (mkF m 318 #[.val (.long q0), .second, .val (.long q1), .second, .val (.long q2), .second, .val (.long q3), .second, .val (.long q4), .second, .val (.int p5), .val (.int (p5 &&& (63 : Int32))), .val (.int (((p5.toUInt32 >>> ((6 : Int32) &&& 31).toUInt32).toInt32) &&& (63 : Int32))), .val (.ref b325), .val (.ref b328), .val (.ref b_370), .val (.long v16_372), .second, .val (.long v18_372), .second, .val (.long v20_372), .second, .val (.long v22_372), .second, .val (.long v24_374), .second, .val (.long v26_374), .second, .val (.long v28_374), .second, .val (.long v30_374), .second, .val (.long v32_376), .second, .val (.long v34_376), .second] [(.long ((if ((p5 &&& (63 : Int32)) &&& (16 : Int32)) = (0 : Int32) then (0 : Int64) else ((0 : Int64) + (1 : Int64))) + (if ((((p5.toUInt32 >>> ((6 : Int32) &&& 31).toUInt32).toInt32) &&& (63 : Int32)) &&& (16 : Int32)) = (0 : Int32) then (0 : Int64) else ((0 : Int64) + (1 : Int64)))))])) _
    refine XS.lload X391.here hx rfl (hb hby at_318) rfl ?_
    show Steps p.tables e below (T391.setTop (mkF m 320 #[.val (.long q0), .second, .val (.long q1), .second, .val (.long q2), .second, .val (.long q3), .second, .val (.long q4), .second, .val (.int p5), .val (.int (p5 &&& (63 : Int32))), .val (.int (((p5.toUInt32 >>> ((6 : Int32) &&& 31).toUInt32).toInt32) &&& (63 : Int32))), .val (.ref b325), .val (.ref b328), .val (.ref b_370), .val (.long v16_372), .second, .val (.long v18_372), .second, .val (.long v20_372), .second, .val (.long v22_372), .second, .val (.long v24_374), .second, .val (.long v26_374), .second, .val (.long v28_374), .second, .val (.long v30_374), .second, .val (.long v32_376), .second, .val (.long v34_376), .second] [(.long v28_374), (.long ((if ((p5 &&& (63 : Int32)) &&& (16 : Int32)) = (0 : Int32) then (0 : Int64) else ((0 : Int64) + (1 : Int64))) + (if ((((p5.toUInt32 >>> ((6 : Int32) &&& 31).toUInt32).toInt32) &&& (63 : Int32)) &&& (16 : Int32)) = (0 : Int32) then (0 : Int64) else ((0 : Int64) + (1 : Int64)))))])) _
    refine XS.lcmp X391.here hx rfl (hb hby at_320) rfl ?_
    show Steps p.tables e below (T391.setTop (mkF m 321 #[.val (.long q0), .second, .val (.long q1), .second, .val (.long q2), .second, .val (.long q3), .second, .val (.long q4), .second, .val (.int p5), .val (.int (p5 &&& (63 : Int32))), .val (.int (((p5.toUInt32 >>> ((6 : Int32) &&& 31).toUInt32).toInt32) &&& (63 : Int32))), .val (.ref b325), .val (.ref b328), .val (.ref b_370), .val (.long v16_372), .second, .val (.long v18_372), .second, .val (.long v20_372), .second, .val (.long v22_372), .second, .val (.long v24_374), .second, .val (.long v26_374), .second, .val (.long v28_374), .second, .val (.long v30_374), .second, .val (.long v32_376), .second, .val (.long v34_376), .second] [(.int (lcmpW ((if ((p5 &&& (63 : Int32)) &&& (16 : Int32)) = (0 : Int32) then (0 : Int64) else ((0 : Int64) + (1 : Int64))) + (if ((((p5.toUInt32 >>> ((6 : Int32) &&& 31).toUInt32).toInt32) &&& (63 : Int32)) &&& (16 : Int32)) = (0 : Int32) then (0 : Int64) else ((0 : Int64) + (1 : Int64)))) v28_374))])) _
    refine XS.ifNo X391.here hx rfl (hb hby at_321) rfl ((if0 _ _).trans (teq ((lw_eq _ _).mpr (by rw [f374_2]; exact (own_add2 (own_cnt4 _) (own_cnt4 _))) : (lcmpW ((if ((p5 &&& (63 : Int32)) &&& (16 : Int32)) = (0 : Int32) then (0 : Int64) else ((0 : Int64) + (1 : Int64))) + (if ((((p5.toUInt32 >>> ((6 : Int32) &&& 31).toUInt32).toInt32) &&& (63 : Int32)) &&& (16 : Int32)) = (0 : Int32) then (0 : Int64) else ((0 : Int64) + (1 : Int64)))) v28_374) = (0 : Int32))).2) ?_
    show Steps p.tables e below (T391.setTop (mkF m 324 #[.val (.long q0), .second, .val (.long q1), .second, .val (.long q2), .second, .val (.long q3), .second, .val (.long q4), .second, .val (.int p5), .val (.int (p5 &&& (63 : Int32))), .val (.int (((p5.toUInt32 >>> ((6 : Int32) &&& 31).toUInt32).toInt32) &&& (63 : Int32))), .val (.ref b325), .val (.ref b328), .val (.ref b_370), .val (.long v16_372), .second, .val (.long v18_372), .second, .val (.long v20_372), .second, .val (.long v22_372), .second, .val (.long v24_374), .second, .val (.long v26_374), .second, .val (.long v28_374), .second, .val (.long v30_374), .second, .val (.long v32_376), .second, .val (.long v34_376), .second] [])) _
    refine XS.aload X391.here hx rfl (hb hby at_324) rfl rfl ?_
    show Steps p.tables e below (T391.setTop (mkF m 326 #[.val (.long q0), .second, .val (.long q1), .second, .val (.long q2), .second, .val (.long q3), .second, .val (.long q4), .second, .val (.int p5), .val (.int (p5 &&& (63 : Int32))), .val (.int (((p5.toUInt32 >>> ((6 : Int32) &&& 31).toUInt32).toInt32) &&& (63 : Int32))), .val (.ref b325), .val (.ref b328), .val (.ref b_370), .val (.long v16_372), .second, .val (.long v18_372), .second, .val (.long v20_372), .second, .val (.long v22_372), .second, .val (.long v24_374), .second, .val (.long v26_374), .second, .val (.long v28_374), .second, .val (.long v30_374), .second, .val (.long v32_376), .second, .val (.long v34_376), .second] [(.ref b_370)])) _
    refine st393.trans ?_
    show Steps p.tables e below (T393.setTop (mkF m 329 #[.val (.long q0), .second, .val (.long q1), .second, .val (.long q2), .second, .val (.long q3), .second, .val (.long q4), .second, .val (.int p5), .val (.int (p5 &&& (63 : Int32))), .val (.int (((p5.toUInt32 >>> ((6 : Int32) &&& 31).toUInt32).toInt32) &&& (63 : Int32))), .val (.ref b325), .val (.ref b328), .val (.ref b_370), .val (.long v16_372), .second, .val (.long v18_372), .second, .val (.long v20_372), .second, .val (.long v22_372), .second, .val (.long v24_374), .second, .val (.long v26_374), .second, .val (.long v28_374), .second, .val (.long v30_374), .second, .val (.long v32_376), .second, .val (.long v34_376), .second] [(.long (own_avg ((if ((p5 &&& (63 : Int32)) &&& (16 : Int32)) = (0 : Int32) then (0 : Int64) else ((0 : Int64) + q2)) + (if ((((p5.toUInt32 >>> ((6 : Int32) &&& 31).toUInt32).toInt32) &&& (63 : Int32)) &&& (16 : Int32)) = (0 : Int32) then (0 : Int64) else ((0 : Int64) + q3))) ((if ((p5 &&& (63 : Int32)) &&& (16 : Int32)) = (0 : Int32) then (0 : Int64) else ((0 : Int64) + (1 : Int64))) + (if ((((p5.toUInt32 >>> ((6 : Int32) &&& 31).toUInt32).toInt32) &&& (63 : Int32)) &&& (16 : Int32)) = (0 : Int32) then (0 : Int64) else ((0 : Int64) + (1 : Int64))))))])) _
    refine XS.lload X393.here hx rfl (hb hby at_329) rfl ?_
    show Steps p.tables e below (T393.setTop (mkF m 331 #[.val (.long q0), .second, .val (.long q1), .second, .val (.long q2), .second, .val (.long q3), .second, .val (.long q4), .second, .val (.int p5), .val (.int (p5 &&& (63 : Int32))), .val (.int (((p5.toUInt32 >>> ((6 : Int32) &&& 31).toUInt32).toInt32) &&& (63 : Int32))), .val (.ref b325), .val (.ref b328), .val (.ref b_370), .val (.long v16_372), .second, .val (.long v18_372), .second, .val (.long v20_372), .second, .val (.long v22_372), .second, .val (.long v24_374), .second, .val (.long v26_374), .second, .val (.long v28_374), .second, .val (.long v30_374), .second, .val (.long v32_376), .second, .val (.long v34_376), .second] [(.long v30_374), (.long (own_avg ((if ((p5 &&& (63 : Int32)) &&& (16 : Int32)) = (0 : Int32) then (0 : Int64) else ((0 : Int64) + q2)) + (if ((((p5.toUInt32 >>> ((6 : Int32) &&& 31).toUInt32).toInt32) &&& (63 : Int32)) &&& (16 : Int32)) = (0 : Int32) then (0 : Int64) else ((0 : Int64) + q3))) ((if ((p5 &&& (63 : Int32)) &&& (16 : Int32)) = (0 : Int32) then (0 : Int64) else ((0 : Int64) + (1 : Int64))) + (if ((((p5.toUInt32 >>> ((6 : Int32) &&& 31).toUInt32).toInt32) &&& (63 : Int32)) &&& (16 : Int32)) = (0 : Int32) then (0 : Int64) else ((0 : Int64) + (1 : Int64))))))])) _
    refine XS.lload X393.here hx rfl (hb hby at_331) rfl ?_
    show Steps p.tables e below (T393.setTop (mkF m 333 #[.val (.long q0), .second, .val (.long q1), .second, .val (.long q2), .second, .val (.long q3), .second, .val (.long q4), .second, .val (.int p5), .val (.int (p5 &&& (63 : Int32))), .val (.int (((p5.toUInt32 >>> ((6 : Int32) &&& 31).toUInt32).toInt32) &&& (63 : Int32))), .val (.ref b325), .val (.ref b328), .val (.ref b_370), .val (.long v16_372), .second, .val (.long v18_372), .second, .val (.long v20_372), .second, .val (.long v22_372), .second, .val (.long v24_374), .second, .val (.long v26_374), .second, .val (.long v28_374), .second, .val (.long v30_374), .second, .val (.long v32_376), .second, .val (.long v34_376), .second] [(.long v28_374), (.long v30_374), (.long (own_avg ((if ((p5 &&& (63 : Int32)) &&& (16 : Int32)) = (0 : Int32) then (0 : Int64) else ((0 : Int64) + q2)) + (if ((((p5.toUInt32 >>> ((6 : Int32) &&& 31).toUInt32).toInt32) &&& (63 : Int32)) &&& (16 : Int32)) = (0 : Int32) then (0 : Int64) else ((0 : Int64) + q3))) ((if ((p5 &&& (63 : Int32)) &&& (16 : Int32)) = (0 : Int32) then (0 : Int64) else ((0 : Int64) + (1 : Int64))) + (if ((((p5.toUInt32 >>> ((6 : Int32) &&& 31).toUInt32).toInt32) &&& (63 : Int32)) &&& (16 : Int32)) = (0 : Int32) then (0 : Int64) else ((0 : Int64) + (1 : Int64))))))])) _
    refine st395 _ ?_
    show Steps p.tables e below (T395.setTop (mkF m 336 #[.val (.long q0), .second, .val (.long q1), .second, .val (.long q2), .second, .val (.long q3), .second, .val (.long q4), .second, .val (.int p5), .val (.int (p5 &&& (63 : Int32))), .val (.int (((p5.toUInt32 >>> ((6 : Int32) &&& 31).toUInt32).toInt32) &&& (63 : Int32))), .val (.ref b325), .val (.ref b328), .val (.ref b_370), .val (.long v16_372), .second, .val (.long v18_372), .second, .val (.long v20_372), .second, .val (.long v22_372), .second, .val (.long v24_374), .second, .val (.long v26_374), .second, .val (.long v28_374), .second, .val (.long v30_374), .second, .val (.long v32_376), .second, .val (.long v34_376), .second] [(.long (own_avg v30_374 v28_374)), (.long (own_avg ((if ((p5 &&& (63 : Int32)) &&& (16 : Int32)) = (0 : Int32) then (0 : Int64) else ((0 : Int64) + q2)) + (if ((((p5.toUInt32 >>> ((6 : Int32) &&& 31).toUInt32).toInt32) &&& (63 : Int32)) &&& (16 : Int32)) = (0 : Int32) then (0 : Int64) else ((0 : Int64) + q3))) ((if ((p5 &&& (63 : Int32)) &&& (16 : Int32)) = (0 : Int32) then (0 : Int64) else ((0 : Int64) + (1 : Int64))) + (if ((((p5.toUInt32 >>> ((6 : Int32) &&& 31).toUInt32).toInt32) &&& (63 : Int32)) &&& (16 : Int32)) = (0 : Int32) then (0 : Int64) else ((0 : Int64) + (1 : Int64))))))])) _
    refine XS.lcmp X395.here hx rfl (hb hby at_336) rfl ?_
    show Steps p.tables e below (T395.setTop (mkF m 337 #[.val (.long q0), .second, .val (.long q1), .second, .val (.long q2), .second, .val (.long q3), .second, .val (.long q4), .second, .val (.int p5), .val (.int (p5 &&& (63 : Int32))), .val (.int (((p5.toUInt32 >>> ((6 : Int32) &&& 31).toUInt32).toInt32) &&& (63 : Int32))), .val (.ref b325), .val (.ref b328), .val (.ref b_370), .val (.long v16_372), .second, .val (.long v18_372), .second, .val (.long v20_372), .second, .val (.long v22_372), .second, .val (.long v24_374), .second, .val (.long v26_374), .second, .val (.long v28_374), .second, .val (.long v30_374), .second, .val (.long v32_376), .second, .val (.long v34_376), .second] [(.int (lcmpW (own_avg ((if ((p5 &&& (63 : Int32)) &&& (16 : Int32)) = (0 : Int32) then (0 : Int64) else ((0 : Int64) + q2)) + (if ((((p5.toUInt32 >>> ((6 : Int32) &&& 31).toUInt32).toInt32) &&& (63 : Int32)) &&& (16 : Int32)) = (0 : Int32) then (0 : Int64) else ((0 : Int64) + q3))) ((if ((p5 &&& (63 : Int32)) &&& (16 : Int32)) = (0 : Int32) then (0 : Int64) else ((0 : Int64) + (1 : Int64))) + (if ((((p5.toUInt32 >>> ((6 : Int32) &&& 31).toUInt32).toInt32) &&& (63 : Int32)) &&& (16 : Int32)) = (0 : Int32) then (0 : Int64) else ((0 : Int64) + (1 : Int64))))) (own_avg v30_374 v28_374)))])) _
    refine XS.ifNo X395.here hx rfl (hb hby at_337) rfl ((if0 _ _).trans (teq ((lw_eq _ _).mpr (by rw [f374_3, f374_2]; exact (own_avg2 (own_add2 (own_nan4 _ _) (own_nan4 _ _)) (own_add2 (own_cnt4 _) (own_cnt4 _)))) : (lcmpW (own_avg ((if ((p5 &&& (63 : Int32)) &&& (16 : Int32)) = (0 : Int32) then (0 : Int64) else ((0 : Int64) + q2)) + (if ((((p5.toUInt32 >>> ((6 : Int32) &&& 31).toUInt32).toInt32) &&& (63 : Int32)) &&& (16 : Int32)) = (0 : Int32) then (0 : Int64) else ((0 : Int64) + q3))) ((if ((p5 &&& (63 : Int32)) &&& (16 : Int32)) = (0 : Int32) then (0 : Int64) else ((0 : Int64) + (1 : Int64))) + (if ((((p5.toUInt32 >>> ((6 : Int32) &&& 31).toUInt32).toInt32) &&& (63 : Int32)) &&& (16 : Int32)) = (0 : Int32) then (0 : Int64) else ((0 : Int64) + (1 : Int64))))) (own_avg v30_374 v28_374)) = (0 : Int32))).2) ?_
    show Steps p.tables e below (T395.setTop (mkF m 340 #[.val (.long q0), .second, .val (.long q1), .second, .val (.long q2), .second, .val (.long q3), .second, .val (.long q4), .second, .val (.int p5), .val (.int (p5 &&& (63 : Int32))), .val (.int (((p5.toUInt32 >>> ((6 : Int32) &&& 31).toUInt32).toInt32) &&& (63 : Int32))), .val (.ref b325), .val (.ref b328), .val (.ref b_370), .val (.long v16_372), .second, .val (.long v18_372), .second, .val (.long v20_372), .second, .val (.long v22_372), .second, .val (.long v24_374), .second, .val (.long v26_374), .second, .val (.long v28_374), .second, .val (.long v30_374), .second, .val (.long v32_376), .second, .val (.long v34_376), .second] [])) _
    refine XS.aload X395.here hx rfl (hb hby at_340) rfl rfl ?_
    show Steps p.tables e below (T395.setTop (mkF m 342 #[.val (.long q0), .second, .val (.long q1), .second, .val (.long q2), .second, .val (.long q3), .second, .val (.long q4), .second, .val (.int p5), .val (.int (p5 &&& (63 : Int32))), .val (.int (((p5.toUInt32 >>> ((6 : Int32) &&& 31).toUInt32).toInt32) &&& (63 : Int32))), .val (.ref b325), .val (.ref b328), .val (.ref b_370), .val (.long v16_372), .second, .val (.long v18_372), .second, .val (.long v20_372), .second, .val (.long v22_372), .second, .val (.long v24_374), .second, .val (.long v26_374), .second, .val (.long v28_374), .second, .val (.long v30_374), .second, .val (.long v32_376), .second, .val (.long v34_376), .second] [(.ref b_370)])) _
    refine st396.trans ?_
    show Steps p.tables e below (T396.setTop (mkF m 345 #[.val (.long q0), .second, .val (.long q1), .second, .val (.long q2), .second, .val (.long q3), .second, .val (.long q4), .second, .val (.int p5), .val (.int (p5 &&& (63 : Int32))), .val (.int (((p5.toUInt32 >>> ((6 : Int32) &&& 31).toUInt32).toInt32) &&& (63 : Int32))), .val (.ref b325), .val (.ref b328), .val (.ref b_370), .val (.long v16_372), .second, .val (.long v18_372), .second, .val (.long v20_372), .second, .val (.long v22_372), .second, .val (.long v24_374), .second, .val (.long v26_374), .second, .val (.long v28_374), .second, .val (.long v30_374), .second, .val (.long v32_376), .second, .val (.long v34_376), .second] [(.long (own_avg ((if ((p5 &&& (63 : Int32)) &&& (32 : Int32)) = (0 : Int32) then (if ((p5 &&& (63 : Int32)) &&& (16 : Int32)) = (0 : Int32) then (0 : Int64) else ((0 : Int64) + q2)) else ((if ((p5 &&& (63 : Int32)) &&& (16 : Int32)) = (0 : Int32) then (0 : Int64) else ((0 : Int64) + q2)) + q3)) + (if ((((p5.toUInt32 >>> ((6 : Int32) &&& 31).toUInt32).toInt32) &&& (63 : Int32)) &&& (32 : Int32)) = (0 : Int32) then (if ((((p5.toUInt32 >>> ((6 : Int32) &&& 31).toUInt32).toInt32) &&& (63 : Int32)) &&& (16 : Int32)) = (0 : Int32) then (0 : Int64) else ((0 : Int64) + q3)) else ((if ((((p5.toUInt32 >>> ((6 : Int32) &&& 31).toUInt32).toInt32) &&& (63 : Int32)) &&& (16 : Int32)) = (0 : Int32) then (0 : Int64) else ((0 : Int64) + q3)) + q4))) ((if ((p5 &&& (63 : Int32)) &&& (32 : Int32)) = (0 : Int32) then (if ((p5 &&& (63 : Int32)) &&& (16 : Int32)) = (0 : Int32) then (0 : Int64) else ((0 : Int64) + (1 : Int64))) else ((if ((p5 &&& (63 : Int32)) &&& (16 : Int32)) = (0 : Int32) then (0 : Int64) else ((0 : Int64) + (1 : Int64))) + (1 : Int64))) + (if ((((p5.toUInt32 >>> ((6 : Int32) &&& 31).toUInt32).toInt32) &&& (63 : Int32)) &&& (32 : Int32)) = (0 : Int32) then (if ((((p5.toUInt32 >>> ((6 : Int32) &&& 31).toUInt32).toInt32) &&& (63 : Int32)) &&& (16 : Int32)) = (0 : Int32) then (0 : Int64) else ((0 : Int64) + (1 : Int64))) else ((if ((((p5.toUInt32 >>> ((6 : Int32) &&& 31).toUInt32).toInt32) &&& (63 : Int32)) &&& (16 : Int32)) = (0 : Int32) then (0 : Int64) else ((0 : Int64) + (1 : Int64))) + (1 : Int64))))))])) _
    refine XS.lload X396.here hx rfl (hb hby at_345) rfl ?_
    show Steps p.tables e below (T396.setTop (mkF m 347 #[.val (.long q0), .second, .val (.long q1), .second, .val (.long q2), .second, .val (.long q3), .second, .val (.long q4), .second, .val (.int p5), .val (.int (p5 &&& (63 : Int32))), .val (.int (((p5.toUInt32 >>> ((6 : Int32) &&& 31).toUInt32).toInt32) &&& (63 : Int32))), .val (.ref b325), .val (.ref b328), .val (.ref b_370), .val (.long v16_372), .second, .val (.long v18_372), .second, .val (.long v20_372), .second, .val (.long v22_372), .second, .val (.long v24_374), .second, .val (.long v26_374), .second, .val (.long v28_374), .second, .val (.long v30_374), .second, .val (.long v32_376), .second, .val (.long v34_376), .second] [(.long v34_376), (.long (own_avg ((if ((p5 &&& (63 : Int32)) &&& (32 : Int32)) = (0 : Int32) then (if ((p5 &&& (63 : Int32)) &&& (16 : Int32)) = (0 : Int32) then (0 : Int64) else ((0 : Int64) + q2)) else ((if ((p5 &&& (63 : Int32)) &&& (16 : Int32)) = (0 : Int32) then (0 : Int64) else ((0 : Int64) + q2)) + q3)) + (if ((((p5.toUInt32 >>> ((6 : Int32) &&& 31).toUInt32).toInt32) &&& (63 : Int32)) &&& (32 : Int32)) = (0 : Int32) then (if ((((p5.toUInt32 >>> ((6 : Int32) &&& 31).toUInt32).toInt32) &&& (63 : Int32)) &&& (16 : Int32)) = (0 : Int32) then (0 : Int64) else ((0 : Int64) + q3)) else ((if ((((p5.toUInt32 >>> ((6 : Int32) &&& 31).toUInt32).toInt32) &&& (63 : Int32)) &&& (16 : Int32)) = (0 : Int32) then (0 : Int64) else ((0 : Int64) + q3)) + q4))) ((if ((p5 &&& (63 : Int32)) &&& (32 : Int32)) = (0 : Int32) then (if ((p5 &&& (63 : Int32)) &&& (16 : Int32)) = (0 : Int32) then (0 : Int64) else ((0 : Int64) + (1 : Int64))) else ((if ((p5 &&& (63 : Int32)) &&& (16 : Int32)) = (0 : Int32) then (0 : Int64) else ((0 : Int64) + (1 : Int64))) + (1 : Int64))) + (if ((((p5.toUInt32 >>> ((6 : Int32) &&& 31).toUInt32).toInt32) &&& (63 : Int32)) &&& (32 : Int32)) = (0 : Int32) then (if ((((p5.toUInt32 >>> ((6 : Int32) &&& 31).toUInt32).toInt32) &&& (63 : Int32)) &&& (16 : Int32)) = (0 : Int32) then (0 : Int64) else ((0 : Int64) + (1 : Int64))) else ((if ((((p5.toUInt32 >>> ((6 : Int32) &&& 31).toUInt32).toInt32) &&& (63 : Int32)) &&& (16 : Int32)) = (0 : Int32) then (0 : Int64) else ((0 : Int64) + (1 : Int64))) + (1 : Int64))))))])) _
    refine XS.lload X396.here hx rfl (hb hby at_347) rfl ?_
    show Steps p.tables e below (T396.setTop (mkF m 349 #[.val (.long q0), .second, .val (.long q1), .second, .val (.long q2), .second, .val (.long q3), .second, .val (.long q4), .second, .val (.int p5), .val (.int (p5 &&& (63 : Int32))), .val (.int (((p5.toUInt32 >>> ((6 : Int32) &&& 31).toUInt32).toInt32) &&& (63 : Int32))), .val (.ref b325), .val (.ref b328), .val (.ref b_370), .val (.long v16_372), .second, .val (.long v18_372), .second, .val (.long v20_372), .second, .val (.long v22_372), .second, .val (.long v24_374), .second, .val (.long v26_374), .second, .val (.long v28_374), .second, .val (.long v30_374), .second, .val (.long v32_376), .second, .val (.long v34_376), .second] [(.long v32_376), (.long v34_376), (.long (own_avg ((if ((p5 &&& (63 : Int32)) &&& (32 : Int32)) = (0 : Int32) then (if ((p5 &&& (63 : Int32)) &&& (16 : Int32)) = (0 : Int32) then (0 : Int64) else ((0 : Int64) + q2)) else ((if ((p5 &&& (63 : Int32)) &&& (16 : Int32)) = (0 : Int32) then (0 : Int64) else ((0 : Int64) + q2)) + q3)) + (if ((((p5.toUInt32 >>> ((6 : Int32) &&& 31).toUInt32).toInt32) &&& (63 : Int32)) &&& (32 : Int32)) = (0 : Int32) then (if ((((p5.toUInt32 >>> ((6 : Int32) &&& 31).toUInt32).toInt32) &&& (63 : Int32)) &&& (16 : Int32)) = (0 : Int32) then (0 : Int64) else ((0 : Int64) + q3)) else ((if ((((p5.toUInt32 >>> ((6 : Int32) &&& 31).toUInt32).toInt32) &&& (63 : Int32)) &&& (16 : Int32)) = (0 : Int32) then (0 : Int64) else ((0 : Int64) + q3)) + q4))) ((if ((p5 &&& (63 : Int32)) &&& (32 : Int32)) = (0 : Int32) then (if ((p5 &&& (63 : Int32)) &&& (16 : Int32)) = (0 : Int32) then (0 : Int64) else ((0 : Int64) + (1 : Int64))) else ((if ((p5 &&& (63 : Int32)) &&& (16 : Int32)) = (0 : Int32) then (0 : Int64) else ((0 : Int64) + (1 : Int64))) + (1 : Int64))) + (if ((((p5.toUInt32 >>> ((6 : Int32) &&& 31).toUInt32).toInt32) &&& (63 : Int32)) &&& (32 : Int32)) = (0 : Int32) then (if ((((p5.toUInt32 >>> ((6 : Int32) &&& 31).toUInt32).toInt32) &&& (63 : Int32)) &&& (16 : Int32)) = (0 : Int32) then (0 : Int64) else ((0 : Int64) + (1 : Int64))) else ((if ((((p5.toUInt32 >>> ((6 : Int32) &&& 31).toUInt32).toInt32) &&& (63 : Int32)) &&& (16 : Int32)) = (0 : Int32) then (0 : Int64) else ((0 : Int64) + (1 : Int64))) + (1 : Int64))))))])) _
    refine st398 _ ?_
    show Steps p.tables e below (T398.setTop (mkF m 352 #[.val (.long q0), .second, .val (.long q1), .second, .val (.long q2), .second, .val (.long q3), .second, .val (.long q4), .second, .val (.int p5), .val (.int (p5 &&& (63 : Int32))), .val (.int (((p5.toUInt32 >>> ((6 : Int32) &&& 31).toUInt32).toInt32) &&& (63 : Int32))), .val (.ref b325), .val (.ref b328), .val (.ref b_370), .val (.long v16_372), .second, .val (.long v18_372), .second, .val (.long v20_372), .second, .val (.long v22_372), .second, .val (.long v24_374), .second, .val (.long v26_374), .second, .val (.long v28_374), .second, .val (.long v30_374), .second, .val (.long v32_376), .second, .val (.long v34_376), .second] [(.long (own_avg v34_376 v32_376)), (.long (own_avg ((if ((p5 &&& (63 : Int32)) &&& (32 : Int32)) = (0 : Int32) then (if ((p5 &&& (63 : Int32)) &&& (16 : Int32)) = (0 : Int32) then (0 : Int64) else ((0 : Int64) + q2)) else ((if ((p5 &&& (63 : Int32)) &&& (16 : Int32)) = (0 : Int32) then (0 : Int64) else ((0 : Int64) + q2)) + q3)) + (if ((((p5.toUInt32 >>> ((6 : Int32) &&& 31).toUInt32).toInt32) &&& (63 : Int32)) &&& (32 : Int32)) = (0 : Int32) then (if ((((p5.toUInt32 >>> ((6 : Int32) &&& 31).toUInt32).toInt32) &&& (63 : Int32)) &&& (16 : Int32)) = (0 : Int32) then (0 : Int64) else ((0 : Int64) + q3)) else ((if ((((p5.toUInt32 >>> ((6 : Int32) &&& 31).toUInt32).toInt32) &&& (63 : Int32)) &&& (16 : Int32)) = (0 : Int32) then (0 : Int64) else ((0 : Int64) + q3)) + q4))) ((if ((p5 &&& (63 : Int32)) &&& (32 : Int32)) = (0 : Int32) then (if ((p5 &&& (63 : Int32)) &&& (16 : Int32)) = (0 : Int32) then (0 : Int64) else ((0 : Int64) + (1 : Int64))) else ((if ((p5 &&& (63 : Int32)) &&& (16 : Int32)) = (0 : Int32) then (0 : Int64) else ((0 : Int64) + (1 : Int64))) + (1 : Int64))) + (if ((((p5.toUInt32 >>> ((6 : Int32) &&& 31).toUInt32).toInt32) &&& (63 : Int32)) &&& (32 : Int32)) = (0 : Int32) then (if ((((p5.toUInt32 >>> ((6 : Int32) &&& 31).toUInt32).toInt32) &&& (63 : Int32)) &&& (16 : Int32)) = (0 : Int32) then (0 : Int64) else ((0 : Int64) + (1 : Int64))) else ((if ((((p5.toUInt32 >>> ((6 : Int32) &&& 31).toUInt32).toInt32) &&& (63 : Int32)) &&& (16 : Int32)) = (0 : Int32) then (0 : Int64) else ((0 : Int64) + (1 : Int64))) + (1 : Int64))))))])) _
    refine XS.lcmp X398.here hx rfl (hb hby at_352) rfl ?_
    show Steps p.tables e below (T398.setTop (mkF m 353 #[.val (.long q0), .second, .val (.long q1), .second, .val (.long q2), .second, .val (.long q3), .second, .val (.long q4), .second, .val (.int p5), .val (.int (p5 &&& (63 : Int32))), .val (.int (((p5.toUInt32 >>> ((6 : Int32) &&& 31).toUInt32).toInt32) &&& (63 : Int32))), .val (.ref b325), .val (.ref b328), .val (.ref b_370), .val (.long v16_372), .second, .val (.long v18_372), .second, .val (.long v20_372), .second, .val (.long v22_372), .second, .val (.long v24_374), .second, .val (.long v26_374), .second, .val (.long v28_374), .second, .val (.long v30_374), .second, .val (.long v32_376), .second, .val (.long v34_376), .second] [(.int (lcmpW (own_avg ((if ((p5 &&& (63 : Int32)) &&& (32 : Int32)) = (0 : Int32) then (if ((p5 &&& (63 : Int32)) &&& (16 : Int32)) = (0 : Int32) then (0 : Int64) else ((0 : Int64) + q2)) else ((if ((p5 &&& (63 : Int32)) &&& (16 : Int32)) = (0 : Int32) then (0 : Int64) else ((0 : Int64) + q2)) + q3)) + (if ((((p5.toUInt32 >>> ((6 : Int32) &&& 31).toUInt32).toInt32) &&& (63 : Int32)) &&& (32 : Int32)) = (0 : Int32) then (if ((((p5.toUInt32 >>> ((6 : Int32) &&& 31).toUInt32).toInt32) &&& (63 : Int32)) &&& (16 : Int32)) = (0 : Int32) then (0 : Int64) else ((0 : Int64) + q3)) else ((if ((((p5.toUInt32 >>> ((6 : Int32) &&& 31).toUInt32).toInt32) &&& (63 : Int32)) &&& (16 : Int32)) = (0 : Int32) then (0 : Int64) else ((0 : Int64) + q3)) + q4))) ((if ((p5 &&& (63 : Int32)) &&& (32 : Int32)) = (0 : Int32) then (if ((p5 &&& (63 : Int32)) &&& (16 : Int32)) = (0 : Int32) then (0 : Int64) else ((0 : Int64) + (1 : Int64))) else ((if ((p5 &&& (63 : Int32)) &&& (16 : Int32)) = (0 : Int32) then (0 : Int64) else ((0 : Int64) + (1 : Int64))) + (1 : Int64))) + (if ((((p5.toUInt32 >>> ((6 : Int32) &&& 31).toUInt32).toInt32) &&& (63 : Int32)) &&& (32 : Int32)) = (0 : Int32) then (if ((((p5.toUInt32 >>> ((6 : Int32) &&& 31).toUInt32).toInt32) &&& (63 : Int32)) &&& (16 : Int32)) = (0 : Int32) then (0 : Int64) else ((0 : Int64) + (1 : Int64))) else ((if ((((p5.toUInt32 >>> ((6 : Int32) &&& 31).toUInt32).toInt32) &&& (63 : Int32)) &&& (16 : Int32)) = (0 : Int32) then (0 : Int64) else ((0 : Int64) + (1 : Int64))) + (1 : Int64))))) (own_avg v34_376 v32_376)))])) _
    refine XS.ifNo X398.here hx rfl (hb hby at_353) rfl ((if0 _ _).trans (teq ((lw_eq _ _).mpr (by rw [f376_1, f374_3, f376_0, f374_2]; exact (own_avg2 ((own_add2 (own_nan45 _ _ _) (own_nan45 _ _ _)).trans (own_two _ _ _ _)) ((own_add2 (own_cnt45 _) (own_cnt45 _)).trans (own_two _ _ _ _)))) : (lcmpW (own_avg ((if ((p5 &&& (63 : Int32)) &&& (32 : Int32)) = (0 : Int32) then (if ((p5 &&& (63 : Int32)) &&& (16 : Int32)) = (0 : Int32) then (0 : Int64) else ((0 : Int64) + q2)) else ((if ((p5 &&& (63 : Int32)) &&& (16 : Int32)) = (0 : Int32) then (0 : Int64) else ((0 : Int64) + q2)) + q3)) + (if ((((p5.toUInt32 >>> ((6 : Int32) &&& 31).toUInt32).toInt32) &&& (63 : Int32)) &&& (32 : Int32)) = (0 : Int32) then (if ((((p5.toUInt32 >>> ((6 : Int32) &&& 31).toUInt32).toInt32) &&& (63 : Int32)) &&& (16 : Int32)) = (0 : Int32) then (0 : Int64) else ((0 : Int64) + q3)) else ((if ((((p5.toUInt32 >>> ((6 : Int32) &&& 31).toUInt32).toInt32) &&& (63 : Int32)) &&& (16 : Int32)) = (0 : Int32) then (0 : Int64) else ((0 : Int64) + q3)) + q4))) ((if ((p5 &&& (63 : Int32)) &&& (32 : Int32)) = (0 : Int32) then (if ((p5 &&& (63 : Int32)) &&& (16 : Int32)) = (0 : Int32) then (0 : Int64) else ((0 : Int64) + (1 : Int64))) else ((if ((p5 &&& (63 : Int32)) &&& (16 : Int32)) = (0 : Int32) then (0 : Int64) else ((0 : Int64) + (1 : Int64))) + (1 : Int64))) + (if ((((p5.toUInt32 >>> ((6 : Int32) &&& 31).toUInt32).toInt32) &&& (63 : Int32)) &&& (32 : Int32)) = (0 : Int32) then (if ((((p5.toUInt32 >>> ((6 : Int32) &&& 31).toUInt32).toInt32) &&& (63 : Int32)) &&& (16 : Int32)) = (0 : Int32) then (0 : Int64) else ((0 : Int64) + (1 : Int64))) else ((if ((((p5.toUInt32 >>> ((6 : Int32) &&& 31).toUInt32).toInt32) &&& (63 : Int32)) &&& (16 : Int32)) = (0 : Int32) then (0 : Int64) else ((0 : Int64) + (1 : Int64))) + (1 : Int64))))) (own_avg v34_376 v32_376)) = (0 : Int32))).2) ?_
    show Steps p.tables e below (T398.setTop (mkF m 356 #[.val (.long q0), .second, .val (.long q1), .second, .val (.long q2), .second, .val (.long q3), .second, .val (.long q4), .second, .val (.int p5), .val (.int (p5 &&& (63 : Int32))), .val (.int (((p5.toUInt32 >>> ((6 : Int32) &&& 31).toUInt32).toInt32) &&& (63 : Int32))), .val (.ref b325), .val (.ref b328), .val (.ref b_370), .val (.long v16_372), .second, .val (.long v18_372), .second, .val (.long v20_372), .second, .val (.long v22_372), .second, .val (.long v24_374), .second, .val (.long v26_374), .second, .val (.long v28_374), .second, .val (.long v30_374), .second, .val (.long v32_376), .second, .val (.long v34_376), .second] [])) _
    refine XS.aload X398.here hx rfl (hb hby at_356) rfl rfl ?_
    show Steps p.tables e below (T398.setTop (mkF m 358 #[.val (.long q0), .second, .val (.long q1), .second, .val (.long q2), .second, .val (.long q3), .second, .val (.long q4), .second, .val (.int p5), .val (.int (p5 &&& (63 : Int32))), .val (.int (((p5.toUInt32 >>> ((6 : Int32) &&& 31).toUInt32).toInt32) &&& (63 : Int32))), .val (.ref b325), .val (.ref b328), .val (.ref b_370), .val (.long v16_372), .second, .val (.long v18_372), .second, .val (.long v20_372), .second, .val (.long v22_372), .second, .val (.long v24_374), .second, .val (.long v26_374), .second, .val (.long v28_374), .second, .val (.long v30_374), .second, .val (.long v32_376), .second, .val (.long v34_376), .second] [(.ref b_370)])) _
    refine st399.trans ?_
    show Steps p.tables e below (T399.setTop (mkF m 361 #[.val (.long q0), .second, .val (.long q1), .second, .val (.long q2), .second, .val (.long q3), .second, .val (.long q4), .second, .val (.int p5), .val (.int (p5 &&& (63 : Int32))), .val (.int (((p5.toUInt32 >>> ((6 : Int32) &&& 31).toUInt32).toInt32) &&& (63 : Int32))), .val (.ref b325), .val (.ref b328), .val (.ref b_370), .val (.long v16_372), .second, .val (.long v18_372), .second, .val (.long v20_372), .second, .val (.long v22_372), .second, .val (.long v24_374), .second, .val (.long v26_374), .second, .val (.long v28_374), .second, .val (.long v30_374), .second, .val (.long v32_376), .second, .val (.long v34_376), .second] [(.long ((if ((p5 &&& (63 : Int32)) &&& (8 : Int32)) = (0 : Int32) then (0 : Int64) else ((0 : Int64) + (1 : Int64))) + (if ((((p5.toUInt32 >>> ((6 : Int32) &&& 31).toUInt32).toInt32) &&& (63 : Int32)) &&& (8 : Int32)) = (0 : Int32) then (0 : Int64) else ((0 : Int64) + (1 : Int64)))))])) _
    refine XS.lload X399.here hx rfl (hb hby at_361) rfl ?_
    show Steps p.tables e below (T399.setTop (mkF m 363 #[.val (.long q0), .second, .val (.long q1), .second, .val (.long q2), .second, .val (.long q3), .second, .val (.long q4), .second, .val (.int p5), .val (.int (p5 &&& (63 : Int32))), .val (.int (((p5.toUInt32 >>> ((6 : Int32) &&& 31).toUInt32).toInt32) &&& (63 : Int32))), .val (.ref b325), .val (.ref b328), .val (.ref b_370), .val (.long v16_372), .second, .val (.long v18_372), .second, .val (.long v20_372), .second, .val (.long v22_372), .second, .val (.long v24_374), .second, .val (.long v26_374), .second, .val (.long v28_374), .second, .val (.long v30_374), .second, .val (.long v32_376), .second, .val (.long v34_376), .second] [(.long v26_374), (.long ((if ((p5 &&& (63 : Int32)) &&& (8 : Int32)) = (0 : Int32) then (0 : Int64) else ((0 : Int64) + (1 : Int64))) + (if ((((p5.toUInt32 >>> ((6 : Int32) &&& 31).toUInt32).toInt32) &&& (63 : Int32)) &&& (8 : Int32)) = (0 : Int32) then (0 : Int64) else ((0 : Int64) + (1 : Int64)))))])) _
    refine XS.lcmp X399.here hx rfl (hb hby at_363) rfl ?_
    show Steps p.tables e below (T399.setTop (mkF m 364 #[.val (.long q0), .second, .val (.long q1), .second, .val (.long q2), .second, .val (.long q3), .second, .val (.long q4), .second, .val (.int p5), .val (.int (p5 &&& (63 : Int32))), .val (.int (((p5.toUInt32 >>> ((6 : Int32) &&& 31).toUInt32).toInt32) &&& (63 : Int32))), .val (.ref b325), .val (.ref b328), .val (.ref b_370), .val (.long v16_372), .second, .val (.long v18_372), .second, .val (.long v20_372), .second, .val (.long v22_372), .second, .val (.long v24_374), .second, .val (.long v26_374), .second, .val (.long v28_374), .second, .val (.long v30_374), .second, .val (.long v32_376), .second, .val (.long v34_376), .second] [(.int (lcmpW ((if ((p5 &&& (63 : Int32)) &&& (8 : Int32)) = (0 : Int32) then (0 : Int64) else ((0 : Int64) + (1 : Int64))) + (if ((((p5.toUInt32 >>> ((6 : Int32) &&& 31).toUInt32).toInt32) &&& (63 : Int32)) &&& (8 : Int32)) = (0 : Int32) then (0 : Int64) else ((0 : Int64) + (1 : Int64)))) v26_374))])) _
    refine XS.ifNo X399.here hx rfl (hb hby at_364) rfl ((if0 _ _).trans (teq ((lw_eq _ _).mpr (by rw [f374_1]; exact (own_add2 (own_cnt3 _) (own_cnt3 _))) : (lcmpW ((if ((p5 &&& (63 : Int32)) &&& (8 : Int32)) = (0 : Int32) then (0 : Int64) else ((0 : Int64) + (1 : Int64))) + (if ((((p5.toUInt32 >>> ((6 : Int32) &&& 31).toUInt32).toInt32) &&& (63 : Int32)) &&& (8 : Int32)) = (0 : Int32) then (0 : Int64) else ((0 : Int64) + (1 : Int64)))) v26_374) = (0 : Int32))).2) ?_
    show Steps p.tables e below (T399.setTop (mkF m 367 #[.val (.long q0), .second, .val (.long q1), .second, .val (.long q2), .second, .val (.long q3), .second, .val (.long q4), .second, .val (.int p5), .val (.int (p5 &&& (63 : Int32))), .val (.int (((p5.toUInt32 >>> ((6 : Int32) &&& 31).toUInt32).toInt32) &&& (63 : Int32))), .val (.ref b325), .val (.ref b328), .val (.ref b_370), .val (.long v16_372), .second, .val (.long v18_372), .second, .val (.long v20_372), .second, .val (.long v22_372), .second, .val (.long v24_374), .second, .val (.long v26_374), .second, .val (.long v28_374), .second, .val (.long v30_374), .second, .val (.long v32_376), .second, .val (.long v34_376), .second] [])) _
    refine XS.iconst X399.here hx rfl (hb hby at_367) ?_
    show Steps p.tables e below (T399.setTop (mkF m 368 #[.val (.long q0), .second, .val (.long q1), .second, .val (.long q2), .second, .val (.long q3), .second, .val (.long q4), .second, .val (.int p5), .val (.int (p5 &&& (63 : Int32))), .val (.int (((p5.toUInt32 >>> ((6 : Int32) &&& 31).toUInt32).toInt32) &&& (63 : Int32))), .val (.ref b325), .val (.ref b328), .val (.ref b_370), .val (.long v16_372), .second, .val (.long v18_372), .second, .val (.long v20_372), .second, .val (.long v22_372), .second, .val (.long v24_374), .second, .val (.long v26_374), .second, .val (.long v28_374), .second, .val (.long v30_374), .second, .val (.long v32_376), .second, .val (.long v34_376), .second] [(.int (1 : Int32))])) _
    refine XS.goto X399.here hx rfl (pc0 := 368) (pc' := 372) rfl (hb hby at_368) (by decide) (by decide) ?_
    show Steps p.tables e below (T399.setTop (mkF m 372 #[.val (.long q0), .second, .val (.long q1), .second, .val (.long q2), .second, .val (.long q3), .second, .val (.long q4), .second, .val (.int p5), .val (.int (p5 &&& (63 : Int32))), .val (.int (((p5.toUInt32 >>> ((6 : Int32) &&& 31).toUInt32).toInt32) &&& (63 : Int32))), .val (.ref b325), .val (.ref b328), .val (.ref b_370), .val (.long v16_372), .second, .val (.long v18_372), .second, .val (.long v20_372), .second, .val (.long v22_372), .second, .val (.long v24_374), .second, .val (.long v26_374), .second, .val (.long v28_374), .second, .val (.long v30_374), .second, .val (.long v32_376), .second, .val (.long v34_376), .second] [(.int (1 : Int32))])) _
    exact retN X399 hx (t := .boolean) Bd.returns (by simp) (hb hby at_372) hr
  · show Q0 Z ns q0 q1 q2 q3 q4 p5 h0 n0 _ T399.heap _
    rw [eq399]
    exact ⟨rfl, N399, K0_377⟩
theorem own_fldJ {args : Array Value} {s : State} {t : Term} {a : Addr} {C n d : String} {k : Int64} (ev : t.eval args s none [] s = some (.ref a)) (h : (Jvm.Cond.eq (Term.field t C n d) (Term.long k)).value args s none s [] = some true) : Fld s s.heap a C n d (.long k) := by
  apply Fld.start
  have e2 : (Term.long k).eval args s none [] s = some (.long k) := rfl
  cases hf : s.fieldOf? a C n d with
  | none => simp [Cond.value, Term.eval, ev, hf] at h
  | some v => cases v <;> first | (simp [Cond.value, Term.eval, ev, hf] at h; done) | (simp [Cond.value, Term.eval, ev, hf] at h; subst h; rfl)
theorem own_fldI {args : Array Value} {s : State} {t : Term} {a : Addr} {C n d : String} {k : Int32} (ev : t.eval args s none [] s = some (.ref a)) (h : (Jvm.Cond.eq (Term.field t C n d) (Term.int k)).value args s none s [] = some true) : Fld s s.heap a C n d (.int k) := by
  apply Fld.start
  cases hf : s.fieldOf? a C n d with
  | none => simp [Cond.value, Term.eval, ev, hf] at h
  | some v => cases v <;> first | (simp [Cond.value, Term.eval, ev, hf] at h; done) | (simp [Cond.value, Term.eval, ev, hf] at h; subst h; rfl)
set_option maxRecDepth 65536 in
set_option maxHeartbeats 40000000 in
theorem comes_1 {Post : Tables → Env → Array Value → State → Outcome → State → Prop} (hpost : ∀ tb e args s v u, (limb_1_1.after args s (.returned v) u = true ∧ limb_1_2.after args s (.returned v) u = true ∧ True) → FrameEnd s (.returned v) u (Jvm.fieldLocs frame_1_writes args s ++ Jvm.arrayLocs frame_1_arrays args s ++ Jvm.staticLocs frame_1_statics s) 16 128 → Post tb e args s (.returned v) u) :
    ArmFor flags0 classFile x code maxLocals ret World_1 tables_1 room_1 Calls_1 rest_1 Pre_1 Post := by
  intro l hfl _ _ p e ha hc hk s m args below hf hA hF happ hP
  obtain ⟨hcalls, hrest, hpre⟩ := hP
  obtain ⟨-, -, -, hnamed, -, -, -, hat⟩ := (Spec.applies_iff hf).mp happ
  obtain ⟨hg, hn⟩ := and_e (Cond.before_iff.mp (show (Jvm.Cond.and given_1 narrow_1).before args s = true from hpre))
  obtain ⟨gc, gr0⟩ := and_e hg
  obtain ⟨ga0, gr1⟩ := and_e gr0
  obtain ⟨ga1, gr2⟩ := and_e gr1
  obtain ⟨ga2, gr3⟩ := and_e gr2
  obtain ⟨ga3, gr4⟩ := and_e gr3
  obtain ⟨ga4, gr5⟩ := and_e gr4
  obtain ⟨w0, w1, w2, w3, w4, w5, rfl⟩ : ∃ w0 w1 w2 w3 w4 w5 : Value, args = #[w0, w1, w2, w3, w4, w5] := by
    have hs : args.size = 6 := by simpa [Cond.value, given_1] using gc
    obtain ⟨L⟩ := args
    match L, hs with
    | [w0, w1, w2, w3, w4, w5], _ => exact ⟨w0, w1, w2, w3, w4, w5, rfl⟩
  have hw := fun d (hd : d ∈ tables_1) => atoms_spec (ws := Jvm.Cond.code x code maxLocals ret :: tables_1) hat d (List.mem_cons_of_mem _ hd)
  have hfit : Fit s := fun {y c} hc i hi => by
    obtain ⟨ha, rfl⟩ := Array.getElem?_eq_some_iff.mp hc
    have q := List.all_eq_true.mp ((Array.all_eq_true_iff_forall_mem.mp hF) _ (Array.getElem_mem ha)) i (List.mem_range.mpr hi)
    simpa [Array.getElem?_eq_getElem hi] using q
  obtain ⟨hsets, hown0⟩ := atoms_of _ (rest_1_c_eq ▸ (show rest_1_c.before _ s = true from hrest))
  obtain ⟨i0, ei0⟩ := isL_v ga0
  obtain rfl : w0 = (.long i0) := Option.some.inj ei0
  obtain ⟨i1, ei1⟩ := isL_v ga1
  obtain rfl : w1 = (.long i1) := Option.some.inj ei1
  obtain ⟨i2, ei2⟩ := isL_v ga2
  obtain rfl : w2 = (.long i2) := Option.some.inj ei2
  obtain ⟨i3, ei3⟩ := isL_v ga3
  obtain rfl : w3 = (.long i3) := Option.some.inj ei3
  obtain ⟨i4, ei4⟩ := isL_v ga4
  obtain rfl : w4 = (.long i4) := Option.some.inj ei4
  obtain ⟨i5, ei5⟩ := is_v gr5
  obtain rfl : w5 = (.int i5) := Option.some.inj ei5
  have W : ∀ (i : Nat) {d : Jvm.Cond}, tables_1[i]? = some d → d.before _ s = true := fun i d h => hw d (List.mem_of_getElem? h)
  obtain ⟨ns, cN, cellN, kN, eN, -⟩ := Cond.exactly_spec (hsets _ (List.mem_of_getElem? (i := 2) rfl))
  have SN : Sta s s.heap "java/util/concurrent/TimeUnit" "NANOSECONDS" "Ljava/util/concurrent/TimeUnit;" (.ref ns) := Sta.start eN (Or.inl (hsets _ (List.mem_of_getElem? (i := 1) rfl)))
  have EN : Exa s s.heap ns "java/util/concurrent/TimeUnit" := Exa.start eN (Cond.before_iff.mp (hsets _ (List.mem_of_getElem? (i := 2) rfl)))
  have F1 : Fld s s.heap ns "java/util/concurrent/TimeUnit" "scale" "J" (.long (1 : Int64)) := own_fldJ eN (Cond.before_iff.mp (hsets _ (List.mem_of_getElem? (i := 5) rfl)))
  have F2 : Fld s s.heap ns "java/util/concurrent/TimeUnit" "milliRatio" "I" (.int (1000000 : Int32)) := own_fldI eN (Cond.before_iff.mp (hsets _ (List.mem_of_getElem? (i := 9) rfl)))
  have hG : Glob s _ ns := ⟨hw, SN, EN, F1, F2⟩
  obtain ⟨n, o, h1, h2, h3, _, L, rfl, ⟨rfl, N, -⟩, hq⟩ := rm0 l s _ ns hG tables_1 i0 i1 i2 i3 i4 i5 s.heap s.heap.size (Nat.le_refl _) (Old.start s) p e ha hc hk s m _ below hf ((Spec.applies_iff_loose hf).mp happ).1 ⟨rfl, State.Warmed39.refl s, rfl⟩ trivial
  refine ⟨n, _, h1, h2, h3, hpost _ _ _ _ _ _ ⟨Cond.after_iff.mpr rfl, Cond.after_iff.mpr (eq_i res_at (Term.int_eval (1)) rfl), trivial⟩ ⟨hq.1, hq.2.1, (hq.2.2.sift fun y hy => Or.inr (N y hy)).mono (by decide) (by decide)⟩⟩
theorem main_1_1 : Claimed_1_1 := comes_1 fun _ _ _ _ _ _ h hF => ⟨h.1, hF⟩
theorem main_1_2 : Claimed_1_2 := comes_1 fun _ _ _ _ _ _ h hF => ⟨h.2.1, hF⟩
end Jvm.Pilot.@@N@@
namespace Jvm.Pilot.@@N@@
open Jvm Jvm.ClassFile Sem Op Lib Jvm.Free Jvm.Stand Jvm.Pilot.@@N@@.Jvm.D
/-! MADE BY PROGRAM (witnessworld.py) out of the Statement's table words and the real class files: 14 classes; the members and pool entries that the words name. The judged class is class 1, her method 1. -/
namespace start1
open Jvm.ClassFile
def u (s : String) : CpInfo := .utf8 (stringToUtf16 s)
/-- a pool by its gaps: so many unusable entries, then the entry; so many at the end -/
def gap : Nat → List CpInfo → List CpInfo
  | 0, r => r
  | n + 1, r => .unusable :: gap n r
def poolList (es : List (Nat × CpInfo)) (last : Nat) : List CpInfo := es.foldr (fun e r => gap e.1 (e.2 :: r)) (gap last [])
def pool (es : List (Nat × CpInfo)) (last : Nat) : Array CpInfo := ⟨poolList es last⟩
def fileOf (pool : Array CpInfo) (this : Nat) (attrs : Array Attribute := #[]) (ms : Array MethodInfo := #[]) (fl : Nat := 33) (sup : Nat := 0) (ifs : Array Nat := #[]) (fds : Array FieldInfo := #[]) : ClassFile where
  minorVersion := 0
  majorVersion := 65
  constantPool := pool
  accessFlags := fl
  thisClass := this
  superClass := sup
  interfaces := ifs
  fields := fds
  methods := ms
  attributes := attrs
def plain (name : String) (sup : Option ClassId) : Class where
  name := name
  kind := .ordinary
  loader := none
  accessFlags := 33
  super := sup
  interfaces := #[]
  cf := none
  fields := #[]
  methods := #[]
  instanceTypes := #[]
  staticTypes := #[]
  resolved := #[]
  callSites := []
  init := .initialized
  statics := none
  mirror := none

def pool0 : Array CpInfo := pool [(5, u "<init>"), (0, u "()V"), (1, .class_ 10), (1, u "java/lang/Object")] 113

def k0c0 : Code := { maxStack := 0, maxLocals := 1, code := object_method_1_code, exceptionTable := #[], attributes := #[] }
def k0m0 : Method := { name := "<init>", desc := "()V", sig := { parameters := [], returnType := none }, accessFlags := 1, code := some k0c0 }
/-- java/lang/Object -/
def k0 : Class := { plain "java/lang/Object" none with
  accessFlags := 33
  interfaces := #[]
  cf := some (fileOf pool0 8 #[] #[{ accessFlags := 1, nameIndex := 5, descriptorIndex := 6, attributes := #[] }] 33 0 #[] #[])
  fields := #[]
  methods := #[k0m0]
  instanceTypes := #[]
  staticTypes := #[]
  resolved := Array.replicate 124 none
  statics := none }

def pool1 : Array CpInfo := pool [(2, .class_ 4), (0, .nameAndType 5 6), (0, u "java/lang/Object"), (0, u "<init>"), (0, u "()V"), (0, .class_ 8), (0, u "com/example/cistern/cistern/PoolState$Counters"), (0, .methodref 7 3), (0, .methodref 11 12), (0, .class_ 13), (0, .nameAndType 14 15), (0, u "com/example/cistern/cistern/CountersAddPinLaw"), (0, u "fill"), (0, u "(Lcom/example/cistern/cistern/PoolState$Counters;IJJJJ)V"), (0, .methodref 7 17), (0, .nameAndType 18 19), (0, u "add"), (0, u "(Lcom/example/cistern/cistern/PoolState$Counters;)V"), (0, .methodref 7 21), (0, .nameAndType 22 23), (0, u "snapshot"), (0, u "(III)Lcom/example/cistern/cistern/PoolState;"), (0, .methodref 11 25), (0, .nameAndType 26 27), (0, u "bit"), (0, u "(II)J"), (0, .methodref 11 29), (0, .nameAndType 30 31), (0, u "pick"), (0, u "(IIJ)J"), (0, .methodref 33 34), (0, .class_ 35), (0, .nameAndType 36 37), (0, u "com/example/cistern/cistern/PoolState"), (0, u "getRequestCount"), (0, u "()J"), (0, .methodref 33 39), (0, .nameAndType 40 37), (0, u "getAverageRequestTime"), (0, .methodref 11 42), (0, .nameAndType 43 44), (0, u "avg"), (0, u "(JJ)J"), (0, .methodref 33 46), (0, .nameAndType 47 37), (0, u "getHadToWaitCount"), (0, .methodref 33 49), (0, .nameAndType 50 37), (0, u "getAverageWaitTime"), (0, .methodref 33 52), (0, .nameAndType 53 37), (0, u "getBadConnectionCount"), (0, .methodref 33 55), (0, .nameAndType 56 37), (0, u "getClaimedOverdueConnectionCount"), (0, .methodref 33 58), (0, .nameAndType 59 37), (0, u "getAverageOverdueCheckoutTime"), (0, .methodref 33 61), (0, .nameAndType 62 37), (0, u "getAverageCheckoutTime"), (0, .methodref 33 64), (0, .nameAndType 65 37), (0, u "getConnectionsOpened"), (0, .methodref 7 67), (0, .nameAndType 68 69), (0, u "lent"), (0, u "(J)V"), (0, .methodref 7 71), (0, .nameAndType 72 69), (0, u "waited"), (0, .methodref 7 74), (0, .nameAndType 75 6), (0, u "badConnection"), (0, .methodref 7 77), (0, .nameAndType 78 6), (0, u "opened"), (0, .methodref 7 80), (0, .nameAndType 81 69), (0, u "claimedOverdue"), (0, .methodref 7 83), (0, .nameAndType 84 69), (0, u "checkedIn"), (0, .long 1000000), (3, u "law"), (0, u "(JJJJJI)Z")] 5

def k1m0 : Method := { name := "<init>", desc := "()V", sig := { parameters := [], returnType := none }, accessFlags := 1, code := none }
def k1c1 : Code := { maxStack := 10, maxLocals := 36, code := code, exceptionTable := #[], attributes := #[] }
def k1m1 : Method := { name := "law", desc := "(JJJJJI)Z", sig := { parameters := [.long, .long, .long, .long, .long, .int], returnType := some .boolean }, accessFlags := 9, code := some k1c1 }
def k1c2 : Code := { maxStack := 3, maxLocals := 10, code := method_3_code, exceptionTable := #[], attributes := #[] }
def k1m2 : Method := { name := "fill", desc := "(Lcom/example/cistern/cistern/PoolState$Counters;IJJJJ)V", sig := { parameters := [(.object "com/example/cistern/cistern/PoolState$Counters"), .int, .long, .long, .long, .long], returnType := none }, accessFlags := 10, code := some k1c2 }
def k1c3 : Code := { maxStack := 2, maxLocals := 2, code := method_4_code, exceptionTable := #[], attributes := #[] }
def k1m3 : Method := { name := "bit", desc := "(II)J", sig := { parameters := [.int, .int], returnType := some .long }, accessFlags := 10, code := some k1c3 }
def k1c4 : Code := { maxStack := 2, maxLocals := 4, code := method_5_code, exceptionTable := #[], attributes := #[] }
def k1m4 : Method := { name := "pick", desc := "(IIJ)J", sig := { parameters := [.int, .int, .long], returnType := some .long }, accessFlags := 10, code := some k1c4 }
def k1c5 : Code := { maxStack := 4, maxLocals := 4, code := method_6_code, exceptionTable := #[], attributes := #[] }
def k1m5 : Method := { name := "avg", desc := "(JJ)J", sig := { parameters := [.long, .long], returnType := some .long }, accessFlags := 10, code := some k1c5 }
/-- com/example/cistern/cistern/CountersAddPinLaw -/
def k1 : Class := { plain "com/example/cistern/cistern/CountersAddPinLaw" (some 0) with
  accessFlags := 49
  interfaces := #[]
  cf := some (fileOf pool1 11 #[] #[{ accessFlags := 1, nameIndex := 5, descriptorIndex := 6, attributes := #[] }, { accessFlags := 9, nameIndex := 89, descriptorIndex := 90, attributes := #[] }, { accessFlags := 10, nameIndex := 14, descriptorIndex := 15, attributes := #[] }, { accessFlags := 10, nameIndex := 26, descriptorIndex := 27, attributes := #[] }, { accessFlags := 10, nameIndex := 30, descriptorIndex := 31, attributes := #[] }, { accessFlags := 10, nameIndex := 43, descriptorIndex := 44, attributes := #[] }] 49 2 #[] #[])
  fields := #[]
  methods := #[k1m0, k1m1, k1m2, k1m3, k1m4, k1m5]
  instanceTypes := #[]
  staticTypes := #[]
  resolved := Array.replicate 96 none
  statics := none }

def pool2 : Array CpInfo := pool [(1, .methodref 2 3), (0, .class_ 4), (0, .nameAndType 5 6), (0, u "java/lang/Object"), (0, u "<init>"), (0, u "()V"), (0, .fieldref 8 9), (0, .class_ 10), (0, .nameAndType 11 12), (0, u "com/example/cistern/cistern/PoolState$Counters"), (0, u "requestCount"), (0, u "J"), (0, .fieldref 8 14), (0, .nameAndType 15 12), (0, u "requestNanos"), (0, .fieldref 8 17), (0, .nameAndType 18 12), (0, u "hadToWaitCount"), (0, .fieldref 8 20), (0, .nameAndType 21 12), (0, u "waitNanos"), (0, .fieldref 8 23), (0, .nameAndType 24 12), (0, u "badConnectionCount"), (0, .fieldref 8 26), (0, .nameAndType 27 12), (0, u "connectionsOpened"), (0, .fieldref 8 29), (0, .nameAndType 30 12), (0, u "checkoutCount"), (0, .fieldref 8 32), (0, .nameAndType 33 12), (0, u "checkoutNanos"), (0, .fieldref 8 35), (0, .nameAndType 36 12), (0, u "claimedOverdueCount"), (0, .fieldref 8 38), (0, .nameAndType 39 12), (0, u "overdueCheckoutNanos"), (0, .methodref 8 41), (0, .nameAndType 42 43), (0, u "checkedIn"), (0, u "(J)V"), (0, .class_ 45), (0, u "com/example/cistern/cistern/PoolState"), (0, .methodref 44 47), (0, .nameAndType 5 48), (0, u "(Lcom/example/cistern/cistern/PoolState$Counters;III)V"), (2, u "lent"), (0, u "waited"), (0, u "badConnection"), (0, u "opened"), (0, u "claimedOverdue"), (0, u "add"), (0, u "(Lcom/example/cistern/cistern/PoolState$Counters;)V"), (0, u "snapshot"), (0, u "(III)Lcom/example/cistern/cistern/PoolState;")] 5

def k2c0 : Code := { maxStack := 1, maxLocals := 1, code := prog_17_method_1_code, exceptionTable := #[], attributes := #[] }
def k2m0 : Method := { name := "<init>", desc := "()V", sig := { parameters := [], returnType := none }, accessFlags := 0, code := some k2c0 }
def k2c1 : Code := { maxStack := 5, maxLocals := 3, code := prog_17_method_2_code, exceptionTable := #[], attributes := #[] }
def k2m1 : Method := { name := "lent", desc := "(J)V", sig := { parameters := [.long], returnType := none }, accessFlags := 0, code := some k2c1 }
def k2c2 : Code := { maxStack := 5, maxLocals := 3, code := prog_17_method_3_code, exceptionTable := #[], attributes := #[] }
def k2m2 : Method := { name := "waited", desc := "(J)V", sig := { parameters := [.long], returnType := none }, accessFlags := 0, code := some k2c2 }
def k2c3 : Code := { maxStack := 5, maxLocals := 1, code := prog_17_method_4_code, exceptionTable := #[], attributes := #[] }
def k2m3 : Method := { name := "badConnection", desc := "()V", sig := { parameters := [], returnType := none }, accessFlags := 0, code := some k2c3 }
def k2c4 : Code := { maxStack := 5, maxLocals := 1, code := prog_17_method_5_code, exceptionTable := #[], attributes := #[] }
def k2m4 : Method := { name := "opened", desc := "()V", sig := { parameters := [], returnType := none }, accessFlags := 0, code := some k2c4 }
def k2c5 : Code := { maxStack := 5, maxLocals := 3, code := prog_17_method_6_code, exceptionTable := #[], attributes := #[] }
def k2m5 : Method := { name := "checkedIn", desc := "(J)V", sig := { parameters := [.long], returnType := none }, accessFlags := 0, code := some k2c5 }
def k2c6 : Code := { maxStack := 5, maxLocals := 3, code := prog_17_method_7_code, exceptionTable := #[], attributes := #[] }
def k2m6 : Method := { name := "claimedOverdue", desc := "(J)V", sig := { parameters := [.long], returnType := none }, accessFlags := 0, code := some k2c6 }
def k2c7 : Code := { maxStack := 5, maxLocals := 2, code := prog_17_method_8_code, exceptionTable := #[], attributes := #[] }
def k2m7 : Method := { name := "add", desc := "(Lcom/example/cistern/cistern/PoolState$Counters;)V", sig := { parameters := [(.object "com/example/cistern/cistern/PoolState$Counters")], returnType := none }, accessFlags := 0, code := some k2c7 }
def k2c8 : Code := { maxStack := 6, maxLocals := 4, code := prog_17_method_9_code, exceptionTable := #[], attributes := #[] }
def k2m8 : Method := { name := "snapshot", desc := "(III)Lcom/example/cistern/cistern/PoolState;", sig := { parameters := [.int, .int, .int], returnType := some (.object "com/example/cistern/cistern/PoolState") }, accessFlags := 0, code := some k2c8 }
/-- com/example/cistern/cistern/PoolState$Counters -/
def k2 : Class := { plain "com/example/cistern/cistern/PoolState$Counters" (some 0) with
  accessFlags := 48
  interfaces := #[]
  cf := some (fileOf pool2 8 #[.nestHost 44] #[{ accessFlags := 0, nameIndex := 5, descriptorIndex := 6, attributes := #[] }, { accessFlags := 0, nameIndex := 51, descriptorIndex := 43, attributes := #[] }, { accessFlags := 0, nameIndex := 52, descriptorIndex := 43, attributes := #[] }, { accessFlags := 0, nameIndex := 53, descriptorIndex := 6, attributes := #[] }, { accessFlags := 0, nameIndex := 54, descriptorIndex := 6, attributes := #[] }, { accessFlags := 0, nameIndex := 42, descriptorIndex := 43, attributes := #[] }, { accessFlags := 0, nameIndex := 55, descriptorIndex := 43, attributes := #[] }, { accessFlags := 0, nameIndex := 56, descriptorIndex := 57, attributes := #[] }, { accessFlags := 0, nameIndex := 58, descriptorIndex := 59, attributes := #[] }] 48 2 #[] #[{ accessFlags := 2, nameIndex := 11, descriptorIndex := 12, attributes := #[] }, { accessFlags := 2, nameIndex := 15, descriptorIndex := 12, attributes := #[] }, { accessFlags := 2, nameIndex := 18, descriptorIndex := 12, attributes := #[] }, { accessFlags := 2, nameIndex := 21, descriptorIndex := 12, attributes := #[] }, { accessFlags := 2, nameIndex := 24, descriptorIndex := 12, attributes := #[] }, { accessFlags := 2, nameIndex := 36, descriptorIndex := 12, attributes := #[] }, { accessFlags := 2, nameIndex := 39, descriptorIndex := 12, attributes := #[] }, { accessFlags := 2, nameIndex := 30, descriptorIndex := 12, attributes := #[] }, { accessFlags := 2, nameIndex := 33, descriptorIndex := 12, attributes := #[] }, { accessFlags := 2, nameIndex := 27, descriptorIndex := 12, attributes := #[] }])
  fields := #[{ name := "requestCount", type := .long, accessFlags := 2, slot := 0, constantValue := 0 }, { name := "requestNanos", type := .long, accessFlags := 2, slot := 1, constantValue := 0 }, { name := "hadToWaitCount", type := .long, accessFlags := 2, slot := 2, constantValue := 0 }, { name := "waitNanos", type := .long, accessFlags := 2, slot := 3, constantValue := 0 }, { name := "badConnectionCount", type := .long, accessFlags := 2, slot := 4, constantValue := 0 }, { name := "claimedOverdueCount", type := .long, accessFlags := 2, slot := 5, constantValue := 0 }, { name := "overdueCheckoutNanos", type := .long, accessFlags := 2, slot := 6, constantValue := 0 }, { name := "checkoutCount", type := .long, accessFlags := 2, slot := 7, constantValue := 0 }, { name := "checkoutNanos", type := .long, accessFlags := 2, slot := 8, constantValue := 0 }, { name := "connectionsOpened", type := .long, accessFlags := 2, slot := 9, constantValue := 0 }]
  methods := #[k2m0, k2m1, k2m2, k2m3, k2m4, k2m5, k2m6, k2m7, k2m8]
  instanceTypes := #[.long, .long, .long, .long, .long, .long, .long, .long, .long, .long]
  staticTypes := #[]
  resolved := Array.replicate 65 none
  statics := none }

def pool3 : Array CpInfo := pool [(1, .methodref 2 3), (0, .class_ 4), (0, .nameAndType 5 6), (0, u "java/lang/Object"), (0, u "<init>"), (0, u "()V"), (0, .fieldref 8 9), (0, .class_ 10), (0, .nameAndType 11 12), (0, u "com/example/cistern/cistern/PoolState$Counters"), (0, u "requestCount"), (0, u "J"), (0, .fieldref 14 9), (0, .class_ 15), (0, u "com/example/cistern/cistern/PoolState"), (0, .fieldref 8 17), (0, .nameAndType 18 12), (0, u "requestNanos"), (0, .methodref 14 20), (0, .nameAndType 21 22), (0, u "averageMillis"), (0, u "(JJ)J"), (0, .fieldref 14 24), (0, .nameAndType 25 12), (0, u "averageRequestTime"), (0, .fieldref 8 27), (0, .nameAndType 28 12), (0, u "hadToWaitCount"), (0, .fieldref 14 27), (0, .fieldref 8 31), (0, .nameAndType 32 12), (0, u "waitNanos"), (0, .fieldref 14 34), (0, .nameAndType 35 12), (0, u "averageWaitTime"), (0, .fieldref 8 37), (0, .nameAndType 38 12), (0, u "badConnectionCount"), (0, .fieldref 14 37), (0, .fieldref 8 41), (0, .nameAndType 42 12), (0, u "claimedOverdueCount"), (0, .fieldref 14 44), (0, .nameAndType 45 12), (0, u "claimedOverdueConnectionCount"), (0, .fieldref 8 47), (0, .nameAndType 48 12), (0, u "overdueCheckoutNanos"), (0, .fieldref 14 50), (0, .nameAndType 51 12), (0, u "averageOverdueCheckoutTime"), (0, .fieldref 8 53), (0, .nameAndType 54 12), (0, u "checkoutNanos"), (0, .fieldref 8 56), (0, .nameAndType 57 12), (0, u "checkoutCount"), (0, .fieldref 14 59), (0, .nameAndType 60 12), (0, u "averageCheckoutTime"), (0, .fieldref 14 62), (0, .nameAndType 63 64), (0, u "idleConnectionCount"), (0, u "I"), (0, .fieldref 14 66), (0, .nameAndType 67 64), (0, u "activeConnectionCount"), (0, .fieldref 14 69), (0, .nameAndType 70 64), (0, u "waitingCount"), (0, .fieldref 8 72), (0, .nameAndType 73 12), (0, u "connectionsOpened"), (0, .fieldref 14 72), (0, .fieldref 76 77), (0, .class_ 78), (0, .nameAndType 79 80), (0, u "java/util/concurrent/TimeUnit"), (0, u "NANOSECONDS"), (0, u "Ljava/util/concurrent/TimeUnit;"), (0, .methodref 76 82), (0, .nameAndType 83 84), (0, u "toMillis"), (0, u "(J)J"), (4, u "(Lcom/example/cistern/cistern/PoolState$Counters;III)V"), (3, u "getRequestCount"), (0, u "()J"), (0, u "getAverageRequestTime"), (0, u "getHadToWaitCount"), (0, u "getAverageWaitTime"), (0, u "getBadConnectionCount"), (0, u "getClaimedOverdueConnectionCount"), (0, u "getAverageOverdueCheckoutTime"), (0, u "getAverageCheckoutTime"), (4, u "getConnectionsOpened")] 21

def k3c0 : Code := { maxStack := 5, maxLocals := 5, code := prog_16_method_1_code, exceptionTable := #[], attributes := #[] }
def k3m0 : Method := { name := "<init>", desc := "(Lcom/example/cistern/cistern/PoolState$Counters;III)V", sig := { parameters := [(.object "com/example/cistern/cistern/PoolState$Counters"), .int, .int, .int], returnType := none }, accessFlags := 2, code := some k3c0 }
def k3c1 : Code := { maxStack := 5, maxLocals := 4, code := prog_16_method_2_code, exceptionTable := #[], attributes := #[] }
def k3m1 : Method := { name := "averageMillis", desc := "(JJ)J", sig := { parameters := [.long, .long], returnType := some .long }, accessFlags := 10, code := some k3c1 }
def k3c2 : Code := { maxStack := 2, maxLocals := 1, code := prog_16_method_3_code, exceptionTable := #[], attributes := #[] }
def k3m2 : Method := { name := "getRequestCount", desc := "()J", sig := { parameters := [], returnType := some .long }, accessFlags := 1, code := some k3c2 }
def k3c3 : Code := { maxStack := 2, maxLocals := 1, code := prog_16_method_4_code, exceptionTable := #[], attributes := #[] }
def k3m3 : Method := { name := "getAverageRequestTime", desc := "()J", sig := { parameters := [], returnType := some .long }, accessFlags := 1, code := some k3c3 }
def k3c4 : Code := { maxStack := 2, maxLocals := 1, code := prog_16_method_5_code, exceptionTable := #[], attributes := #[] }
def k3m4 : Method := { name := "getHadToWaitCount", desc := "()J", sig := { parameters := [], returnType := some .long }, accessFlags := 1, code := some k3c4 }
def k3c5 : Code := { maxStack := 2, maxLocals := 1, code := prog_16_method_6_code, exceptionTable := #[], attributes := #[] }
def k3m5 : Method := { name := "getAverageWaitTime", desc := "()J", sig := { parameters := [], returnType := some .long }, accessFlags := 1, code := some k3c5 }
def k3c6 : Code := { maxStack := 2, maxLocals := 1, code := prog_16_method_7_code, exceptionTable := #[], attributes := #[] }
def k3m6 : Method := { name := "getBadConnectionCount", desc := "()J", sig := { parameters := [], returnType := some .long }, accessFlags := 1, code := some k3c6 }
def k3c7 : Code := { maxStack := 2, maxLocals := 1, code := prog_16_method_8_code, exceptionTable := #[], attributes := #[] }
def k3m7 : Method := { name := "getClaimedOverdueConnectionCount", desc := "()J", sig := { parameters := [], returnType := some .long }, accessFlags := 1, code := some k3c7 }
def k3c8 : Code := { maxStack := 2, maxLocals := 1, code := prog_16_method_9_code, exceptionTable := #[], attributes := #[] }
def k3m8 : Method := { name := "getAverageOverdueCheckoutTime", desc := "()J", sig := { parameters := [], returnType := some .long }, accessFlags := 1, code := some k3c8 }
def k3c9 : Code := { maxStack := 2, maxLocals := 1, code := prog_16_method_10_code, exceptionTable := #[], attributes := #[] }
def k3m9 : Method := { name := "getAverageCheckoutTime", desc := "()J", sig := { parameters := [], returnType := some .long }, accessFlags := 1, code := some k3c9 }
def k3c10 : Code := { maxStack := 2, maxLocals := 1, code := prog_16_method_14_code, exceptionTable := #[], attributes := #[] }
def k3m10 : Method := { name := "getConnectionsOpened", desc := "()J", sig := { parameters := [], returnType := some .long }, accessFlags := 1, code := some k3c10 }
/-- com/example/cistern/cistern/PoolState -/
def k3 : Class := { plain "com/example/cistern/cistern/PoolState" (some 0) with
  accessFlags := 49
  interfaces := #[]
  cf := some (fileOf pool3 14 #[.nestMembers #[8]] #[{ accessFlags := 2, nameIndex := 5, descriptorIndex := 89, attributes := #[] }, { accessFlags := 10, nameIndex := 21, descriptorIndex := 22, attributes := #[] }, { accessFlags := 1, nameIndex := 93, descriptorIndex := 94, attributes := #[] }, { accessFlags := 1, nameIndex := 95, descriptorIndex := 94, attributes := #[] }, { accessFlags := 1, nameIndex := 96, descriptorIndex := 94, attributes := #[] }, { accessFlags := 1, nameIndex := 97, descriptorIndex := 94, attributes := #[] }, { accessFlags := 1, nameIndex := 98, descriptorIndex := 94, attributes := #[] }, { accessFlags := 1, nameIndex := 99, descriptorIndex := 94, attributes := #[] }, { accessFlags := 1, nameIndex := 100, descriptorIndex := 94, attributes := #[] }, { accessFlags := 1, nameIndex := 101, descriptorIndex := 94, attributes := #[] }, { accessFlags := 1, nameIndex := 106, descriptorIndex := 94, attributes := #[] }] 49 2 #[] #[{ accessFlags := 18, nameIndex := 11, descriptorIndex := 12, attributes := #[] }, { accessFlags := 18, nameIndex := 25, descriptorIndex := 12, attributes := #[] }, { accessFlags := 18, nameIndex := 28, descriptorIndex := 12, attributes := #[] }, { accessFlags := 18, nameIndex := 35, descriptorIndex := 12, attributes := #[] }, { accessFlags := 18, nameIndex := 38, descriptorIndex := 12, attributes := #[] }, { accessFlags := 18, nameIndex := 45, descriptorIndex := 12, attributes := #[] }, { accessFlags := 18, nameIndex := 51, descriptorIndex := 12, attributes := #[] }, { accessFlags := 18, nameIndex := 60, descriptorIndex := 12, attributes := #[] }, { accessFlags := 18, nameIndex := 63, descriptorIndex := 64, attributes := #[] }, { accessFlags := 18, nameIndex := 67, descriptorIndex := 64, attributes := #[] }, { accessFlags := 18, nameIndex := 70, descriptorIndex := 64, attributes := #[] }, { accessFlags := 18, nameIndex := 73, descriptorIndex := 12, attributes := #[] }])
  fields := #[{ name := "requestCount", type := .long, accessFlags := 18, slot := 0, constantValue := 0 }, { name := "averageRequestTime", type := .long, accessFlags := 18, slot := 1, constantValue := 0 }, { name := "hadToWaitCount", type := .long, accessFlags := 18, slot := 2, constantValue := 0 }, { name := "averageWaitTime", type := .long, accessFlags := 18, slot := 3, constantValue := 0 }, { name := "badConnectionCount", type := .long, accessFlags := 18, slot := 4, constantValue := 0 }, { name := "claimedOverdueConnectionCount", type := .long, accessFlags := 18, slot := 5, constantValue := 0 }, { name := "averageOverdueCheckoutTime", type := .long, accessFlags := 18, slot := 6, constantValue := 0 }, { name := "averageCheckoutTime", type := .long, accessFlags := 18, slot := 7, constantValue := 0 }, { name := "idleConnectionCount", type := .int, accessFlags := 18, slot := 8, constantValue := 0 }, { name := "activeConnectionCount", type := .int, accessFlags := 18, slot := 9, constantValue := 0 }, { name := "waitingCount", type := .int, accessFlags := 18, slot := 10, constantValue := 0 }, { name := "connectionsOpened", type := .long, accessFlags := 18, slot := 11, constantValue := 0 }]
  methods := #[k3m0, k3m1, k3m2, k3m3, k3m4, k3m5, k3m6, k3m7, k3m8, k3m9, k3m10]
  instanceTypes := #[.long, .long, .long, .long, .long, .long, .long, .long, .int, .int, .int, .long]
  staticTypes := #[]
  resolved := (((((((((((Array.replicate 128 none).setIfInBounds 7 (some (.field 2 0))).setIfInBounds 16 (some (.field 2 1))).setIfInBounds 26 (some (.field 2 2))).setIfInBounds 30 (some (.field 2 3))).setIfInBounds 36 (some (.field 2 4))).setIfInBounds 40 (some (.field 2 5))).setIfInBounds 46 (some (.field 2 6))).setIfInBounds 52 (some (.field 2 8))).setIfInBounds 55 (some (.field 2 7))).setIfInBounds 71 (some (.field 2 9)))
  statics := none }

def pool4 : Array CpInfo := pool [(1, .class_ 2), (0, u "java/lang/constant/Constable"), (0, .class_ 4), (0, u "java/lang/Object")] 6

/-- java/lang/constant/Constable -/
def k4 : Class := { plain "java/lang/constant/Constable" (some 0) with
  accessFlags := 1537
  interfaces := #[]
  cf := some (fileOf pool4 1 #[] #[] 1537 3 #[] #[])
  fields := #[]
  methods := #[]
  instanceTypes := #[]
  staticTypes := #[]
  resolved := Array.replicate 11 none
  statics := none }

def pool5 : Array CpInfo := pool [(1, .class_ 2), (0, u "java/lang/Comparable"), (0, .class_ 4), (0, u "java/lang/Object")] 7

/-- java/lang/Comparable -/
def k5 : Class := { plain "java/lang/Comparable" (some 0) with
  accessFlags := 1537
  interfaces := #[]
  cf := some (fileOf pool5 1 #[] #[] 1537 3 #[] #[])
  fields := #[]
  methods := #[]
  instanceTypes := #[]
  staticTypes := #[]
  resolved := Array.replicate 12 none
  statics := none }

def pool6 : Array CpInfo := pool [(1, .class_ 2), (0, u "java/io/Serializable"), (0, .class_ 4), (0, u "java/lang/Object")] 2

/-- java/io/Serializable -/
def k6 : Class := { plain "java/io/Serializable" (some 0) with
  accessFlags := 1537
  interfaces := #[]
  cf := some (fileOf pool6 1 #[] #[] 1537 3 #[] #[])
  fields := #[]
  methods := #[]
  instanceTypes := #[]
  staticTypes := #[]
  resolved := Array.replicate 7 none
  statics := none }

def pool7 : Array CpInfo := pool [(2, .class_ 4), (1, u "java/lang/Enum"), (0, u "name"), (0, u "Ljava/lang/String;"), (2, u "ordinal"), (0, u "I"), (1, .class_ 14), (1, u "java/lang/Object"), (4, u "hash"), (86, .class_ 108), (1, u "java/lang/Enum$EnumDesc"), (2, .class_ 112), (0, u "java/lang/constant/Constable"), (0, .class_ 114), (0, u "java/lang/Comparable"), (0, .class_ 116), (0, u "java/io/Serializable")] 87

/-- java/lang/Enum -/
def k7 : Class := { plain "java/lang/Enum" (some 0) with
  accessFlags := 1057
  interfaces := #[4, 5, 6]
  cf := some (fileOf pool7 2 #[.nestMembers #[106]] #[] 1057 12 #[111, 113, 115] #[{ accessFlags := 18, nameIndex := 5, descriptorIndex := 6, attributes := #[] }, { accessFlags := 18, nameIndex := 9, descriptorIndex := 10, attributes := #[] }, { accessFlags := 2, nameIndex := 19, descriptorIndex := 10, attributes := #[] }])
  fields := #[{ name := "name", type := (.object "java/lang/String"), accessFlags := 18, slot := 0, constantValue := 0 }, { name := "ordinal", type := .int, accessFlags := 18, slot := 1, constantValue := 0 }, { name := "hash", type := .int, accessFlags := 2, slot := 2, constantValue := 0 }]
  methods := #[]
  instanceTypes := #[(.object "java/lang/String"), .int, .int]
  staticTypes := #[]
  resolved := Array.replicate 204 none
  statics := none }

def pool8 : Array CpInfo := pool [(1, .class_ 2), (0, u "java/util/concurrent/TimeUnit"), (2, u "NANOSECONDS"), (0, u "Ljava/util/concurrent/TimeUnit;"), (2, u "MICROSECONDS"), (2, u "MILLISECONDS"), (2, u "SECONDS"), (2, u "MINUTES"), (2, u "HOURS"), (2, u "DAYS"), (2, u "$VALUES"), (0, u "[Ljava/util/concurrent/TimeUnit;"), (6, .class_ 37), (1, u "java/lang/Enum"), (6, .fieldref 1 45), (0, .nameAndType 46 47), (0, u "scale"), (0, u "J"), (6, u "maxNanos"), (4, u "microRatio"), (2, u "maxMicros"), (0, .long 1000000), (1, .fieldref 1 66), (0, .nameAndType 67 68), (0, u "milliRatio"), (0, u "I"), (2, u "maxMillis"), (4, u "secRatio"), (2, u "maxSecs"), (9, u "(J)J"), (5, u "toMillis"), (67, .class_ 165), (1, u "java/util/concurrent/TimeUnit$1"), (46, u "NANO_SCALE"), (3, u "MICRO_SCALE"), (0, u "MILLI_SCALE"), (0, u "SECOND_SCALE"), (0, u "MINUTE_SCALE"), (0, u "HOUR_SCALE"), (0, u "DAY_SCALE")] 61

def k8c0 : Code := { maxStack := 6, maxLocals := 7, code := jdk_2799_method_9_code, exceptionTable := #[], attributes := #[] }
def k8m0 : Method := { name := "toMillis", desc := "(J)J", sig := { parameters := [.long], returnType := some .long }, accessFlags := 1, code := some k8c0 }
/-- java/util/concurrent/TimeUnit -/
def k8 : Class := { plain "java/util/concurrent/TimeUnit" (some 7) with
  accessFlags := 16433
  interfaces := #[]
  cf := some (fileOf pool8 1 #[.nestMembers #[163]] #[{ accessFlags := 1, nameIndex := 95, descriptorIndex := 89, attributes := #[] }] 16433 35 #[] #[{ accessFlags := 16409, nameIndex := 5, descriptorIndex := 6, attributes := #[] }, { accessFlags := 16409, nameIndex := 9, descriptorIndex := 6, attributes := #[] }, { accessFlags := 16409, nameIndex := 12, descriptorIndex := 6, attributes := #[] }, { accessFlags := 16409, nameIndex := 15, descriptorIndex := 6, attributes := #[] }, { accessFlags := 16409, nameIndex := 18, descriptorIndex := 6, attributes := #[] }, { accessFlags := 16409, nameIndex := 21, descriptorIndex := 6, attributes := #[] }, { accessFlags := 16409, nameIndex := 24, descriptorIndex := 6, attributes := #[] }, { accessFlags := 26, nameIndex := 212, descriptorIndex := 47, attributes := #[] }, { accessFlags := 26, nameIndex := 216, descriptorIndex := 47, attributes := #[] }, { accessFlags := 26, nameIndex := 217, descriptorIndex := 47, attributes := #[] }, { accessFlags := 26, nameIndex := 218, descriptorIndex := 47, attributes := #[] }, { accessFlags := 26, nameIndex := 219, descriptorIndex := 47, attributes := #[] }, { accessFlags := 26, nameIndex := 220, descriptorIndex := 47, attributes := #[] }, { accessFlags := 26, nameIndex := 221, descriptorIndex := 47, attributes := #[] }, { accessFlags := 18, nameIndex := 46, descriptorIndex := 47, attributes := #[] }, { accessFlags := 18, nameIndex := 54, descriptorIndex := 47, attributes := #[] }, { accessFlags := 18, nameIndex := 62, descriptorIndex := 47, attributes := #[] }, { accessFlags := 18, nameIndex := 71, descriptorIndex := 47, attributes := #[] }, { accessFlags := 18, nameIndex := 79, descriptorIndex := 47, attributes := #[] }, { accessFlags := 18, nameIndex := 59, descriptorIndex := 47, attributes := #[] }, { accessFlags := 18, nameIndex := 67, descriptorIndex := 68, attributes := #[] }, { accessFlags := 18, nameIndex := 76, descriptorIndex := 68, attributes := #[] }, { accessFlags := 4122, nameIndex := 27, descriptorIndex := 28, attributes := #[] }])
  fields := #[{ name := "NANOSECONDS", type := (.object "java/util/concurrent/TimeUnit"), accessFlags := 16409, slot := 0, constantValue := 0 }, { name := "MICROSECONDS", type := (.object "java/util/concurrent/TimeUnit"), accessFlags := 16409, slot := 1, constantValue := 0 }, { name := "MILLISECONDS", type := (.object "java/util/concurrent/TimeUnit"), accessFlags := 16409, slot := 2, constantValue := 0 }, { name := "SECONDS", type := (.object "java/util/concurrent/TimeUnit"), accessFlags := 16409, slot := 3, constantValue := 0 }, { name := "MINUTES", type := (.object "java/util/concurrent/TimeUnit"), accessFlags := 16409, slot := 4, constantValue := 0 }, { name := "HOURS", type := (.object "java/util/concurrent/TimeUnit"), accessFlags := 16409, slot := 5, constantValue := 0 }, { name := "DAYS", type := (.object "java/util/concurrent/TimeUnit"), accessFlags := 16409, slot := 6, constantValue := 0 }, { name := "NANO_SCALE", type := .long, accessFlags := 26, slot := 7, constantValue := 0 }, { name := "MICRO_SCALE", type := .long, accessFlags := 26, slot := 8, constantValue := 0 }, { name := "MILLI_SCALE", type := .long, accessFlags := 26, slot := 9, constantValue := 0 }, { name := "SECOND_SCALE", type := .long, accessFlags := 26, slot := 10, constantValue := 0 }, { name := "MINUTE_SCALE", type := .long, accessFlags := 26, slot := 11, constantValue := 0 }, { name := "HOUR_SCALE", type := .long, accessFlags := 26, slot := 12, constantValue := 0 }, { name := "DAY_SCALE", type := .long, accessFlags := 26, slot := 13, constantValue := 0 }, { name := "scale", type := .long, accessFlags := 18, slot := 3, constantValue := 0 }, { name := "maxNanos", type := .long, accessFlags := 18, slot := 4, constantValue := 0 }, { name := "maxMicros", type := .long, accessFlags := 18, slot := 5, constantValue := 0 }, { name := "maxMillis", type := .long, accessFlags := 18, slot := 6, constantValue := 0 }, { name := "maxSecs", type := .long, accessFlags := 18, slot := 7, constantValue := 0 }, { name := "microRatio", type := .long, accessFlags := 18, slot := 8, constantValue := 0 }, { name := "milliRatio", type := .int, accessFlags := 18, slot := 9, constantValue := 0 }, { name := "secRatio", type := .int, accessFlags := 18, slot := 10, constantValue := 0 }, { name := "$VALUES", type := (.array (.object "java/util/concurrent/TimeUnit")), accessFlags := 4122, slot := 14, constantValue := 0 }]
  methods := #[k8m0]
  instanceTypes := #[(.object "java/lang/String"), .int, .int, .long, .long, .long, .long, .long, .long, .int, .int]
  staticTypes := #[(.object "java/util/concurrent/TimeUnit"), (.object "java/util/concurrent/TimeUnit"), (.object "java/util/concurrent/TimeUnit"), (.object "java/util/concurrent/TimeUnit"), (.object "java/util/concurrent/TimeUnit"), (.object "java/util/concurrent/TimeUnit"), (.object "java/util/concurrent/TimeUnit"), .long, .long, .long, .long, .long, .long, .long, (.array (.object "java/util/concurrent/TimeUnit"))]
  resolved := Array.replicate 283 none
  statics := some 0 }

def pool9 : Array CpInfo := pool [(1, u "java/lang/Cloneable"), (0, .class_ 1), (0, u "java/lang/Object"), (0, .class_ 3)] 3

/-- java/lang/Cloneable -/
def k9 : Class := { plain "java/lang/Cloneable" (some 0) with
  accessFlags := 1537
  interfaces := #[]
  cf := some (fileOf pool9 2 #[] #[] 1537 4 #[] #[])
  fields := #[]
  methods := #[]
  instanceTypes := #[]
  staticTypes := #[]
  resolved := Array.replicate 8 none
  statics := none }

/-- the primitive byte -/
def k10 : Class := { plain "byte" none with kind := .primitive 'B', accessFlags := 0x411 }
/-- [B -/
def k11 : Class := { plain "[B" (some 0) with kind := .array 10 .byte, interfaces := #[9, 6], accessFlags := 1041 }

/-- the primitive int -/
def k12 : Class := { plain "int" none with kind := .primitive 'I', accessFlags := 0x411 }
/-- [I -/
def k13 : Class := { plain "[I" (some 0) with kind := .array 12 .int, interfaces := #[9, 6], accessFlags := 1041 }

def k14 : Class := plain "java/lang/String" (some 0)
def heap : Heap := #[{ cls := 8, slots := #[.ref 1, .null, .null, .null, .null, .null, .null, .long 0, .long 0, .long 0, .long 0, .long 0, .long 0, .long 0, .null], vm := .statics 8 },
  { cls := 8, slots := #[.ref 2, .int 0, .int 0, .long 1, .long 9223372036854775807, .long 9223372036854775, .long 9223372036854, .long 9223372036, .long 1000, .int 1000000, .int 1000000000], vm := .none },
  { cls := 14, slots := #[], vm := .none }]
def classes : Array Class := #[k0, k1, k2, k3, k4, k5, k6, k7, k8, k9, k10, k11, k12, k13, k14]
def interned : List (Array UInt16 × Addr) := []
def slotsUsed : Nat := 26
def theMethod : MethodId := ⟨1, 1⟩
def args0 : Array Value := #[.long 1, .long 2, .long 3, .long 4, .long 5, .int 21]
def aboutOver (below : List Frame) : State where
  vm := { classes := classes, interned := interned.toArray }
  heap := heap
  slotsUsed := slotsUsed
  threads := #[{ frames := .invoking theMethod args0 :: below }]
def below0 : List Frame := [.native { method := ⟨0, 0⟩, args := #[] }]
def about1 : State := aboutOver below0
def p0 : Program := .bare "" "" ""
def e0 : Env := launch0.env 0 0 0
theorem w_frames : about1.frames = Frame.invoking theMethod args0 :: below0 := rfl
set_option maxRecDepth 65536 in
theorem w_args : argsFit about1.vm theMethod args0 = true := by decide +kernel
set_option maxRecDepth 65536 in
theorem w_heap : heapFits about1 = true := by decide +kernel
set_option maxRecDepth 65536 in
theorem w_runnable : about1.curStatus? = some .runnable := by decide +kernel
set_option maxRecDepth 65536 in
theorem w_alone : about1.alone = true := by decide +kernel
set_option maxRecDepth 65536 in
theorem w_named : about1.methodNamed? x = some theMethod := by decide +kernel
set_option maxRecDepth 65536 in
theorem w_hears : about1.hears theMethod below0 = true := by decide +kernel
set_option maxRecDepth 65536 in
theorem w_ripe : about1.ripe theMethod args0 below0 = true := by decide +kernel
theorem w_running : about1.status = .running := rfl
set_option maxRecDepth 65536 in
theorem w_room : about1.hasRoom e0.platform room_1 = true :=
  launch0.hasRoom_least _ room_1 (by decide +kernel) (by decide +kernel) (by decide +kernel) (by decide +kernel) (by decide +kernel) (by decide +kernel)
theorem allAtoms_all (ts : List Jvm.Cond) (a : Array Jvm.Value) (st : Jvm.State) : (allAtoms ts).before a st = ts.all (fun c => c.before a st) := by
  induction ts with
  | nil => rfl
  | cons c t ih =>
    show (Jvm.Cond.and c (allAtoms t)).before a st = _
    rw [Jvm.Cond.before_and, ih, List.all_cons]
def words1 : List Jvm.Cond := Jvm.Cond.code x code maxLocals ret :: tables_1
/-- a 'code' word, met by the world's own term for the bytes: nothing is compared byte by byte -/
theorem code_word {y : MethodName} {bytes : ByteArray} {mx : Nat} {rt : Option FieldType} {a : Array Value} {s : State} {m : MethodId} {meth : Method} {c : Code} (h1 : s.methodNamed? y = some m) (h2 : s.vm.method? m = some meth) (h3 : meth.code = some c) (h4 : c.code = bytes)
    (h5 : (c.maxLocals == mx && c.exceptionTable.isEmpty && decide (c.maxStack ≤ mostOperands) && decide (meth.sig.returnType = rt) && !meth.locks && decide (parseMethodDescriptor y.desc = some meth.sig)) = true) : (Jvm.Cond.code y bytes mx rt).before a s = true := by
  simp only [Bool.and_eq_true, beq_iff_eq, Bool.not_eq_true', decide_eq_true_eq] at h5
  obtain ⟨⟨⟨⟨⟨g1, g2⟩, g3⟩, g4⟩, g5⟩, g6⟩ := h5
  simp [Cond.before, Cond.holds, Cond.value, h1, h2, h3, h4, g1, g2, g3, g4, g5, g6]
def isCode : Jvm.Cond → Bool
  | .code _ _ _ _ => true
  | _ => false
theorem all_split {L : List Jvm.Cond} {P : Jvm.Cond → Bool} (h1 : L.all (fun c => isCode c || P c) = true) (h2 : ∀ c ∈ L.filter isCode, P c = true) : L.all P = true := by
  refine List.all_eq_true.mpr fun c hc => ?_
  have h := List.all_eq_true.mp h1 c hc
  rcases Bool.eq_false_or_eq_true (isCode c) with hi | hi
  · exact h2 c (List.mem_filter.mpr ⟨hc, hi⟩)
  · simpa [hi] using h
set_option maxRecDepth 65536 in
theorem w_c0 : (Jvm.Cond.code x code maxLocals ret).before args0 about1 = true := code_word (m := ⟨1, 1⟩) (meth := k1m1) (c := k1c1) (by decide +kernel) rfl rfl rfl (by decide +kernel)
set_option maxRecDepth 65536 in
theorem w_c1 : (Jvm.Cond.code ({ cls := "com/example/cistern/cistern/PoolState$Counters", name := "<init>", desc := "()V" } : Jvm.MethodName) prog_17_method_1_code (1 : Nat) (Option.none : Option Jvm.ClassFile.FieldType)).before args0 about1 = true := code_word (m := ⟨2, 0⟩) (meth := k2m0) (c := k2c0) (by decide +kernel) rfl rfl rfl (by decide +kernel)
set_option maxRecDepth 65536 in
theorem w_c2 : (Jvm.Cond.code ({ cls := "java/lang/Object", name := "<init>", desc := "()V" } : Jvm.MethodName) object_method_1_code (1 : Nat) (Option.none : Option Jvm.ClassFile.FieldType)).before args0 about1 = true := code_word (m := ⟨0, 0⟩) (meth := k0m0) (c := k0c0) (by decide +kernel) rfl rfl rfl (by decide +kernel)
set_option maxRecDepth 65536 in
theorem w_c3 : (Jvm.Cond.code ({ cls := "com/example/cistern/cistern/CountersAddPinLaw", name := "fill", desc := "(Lcom/example/cistern/cistern/PoolState$Counters;IJJJJ)V" } : Jvm.MethodName) method_3_code (10 : Nat) (Option.none : Option Jvm.ClassFile.FieldType)).before args0 about1 = true := code_word (m := ⟨1, 2⟩) (meth := k1m2) (c := k1c2) (by decide +kernel) rfl rfl rfl (by decide +kernel)
set_option maxRecDepth 65536 in
theorem w_c4 : (Jvm.Cond.code ({ cls := "com/example/cistern/cistern/PoolState$Counters", name := "waited", desc := "(J)V" } : Jvm.MethodName) prog_17_method_3_code (3 : Nat) (Option.none : Option Jvm.ClassFile.FieldType)).before args0 about1 = true := code_word (m := ⟨2, 2⟩) (meth := k2m2) (c := k2c2) (by decide +kernel) rfl rfl rfl (by decide +kernel)
set_option maxRecDepth 65536 in
theorem w_c5 : (Jvm.Cond.code ({ cls := "com/example/cistern/cistern/PoolState$Counters", name := "add", desc := "(Lcom/example/cistern/cistern/PoolState$Counters;)V" } : Jvm.MethodName) prog_17_method_8_code (2 : Nat) (Option.none : Option Jvm.ClassFile.FieldType)).before args0 about1 = true := code_word (m := ⟨2, 7⟩) (meth := k2m7) (c := k2c7) (by decide +kernel) rfl rfl rfl (by decide +kernel)
set_option maxRecDepth 65536 in
theorem w_c6 : (Jvm.Cond.code ({ cls := "com/example/cistern/cistern/PoolState$Counters", name := "snapshot", desc := "(III)Lcom/example/cistern/cistern/PoolState;" } : Jvm.MethodName) prog_17_method_9_code (4 : Nat) (Option.some (Jvm.ClassFile.FieldType.object "com/example/cistern/cistern/PoolState"))).before args0 about1 = true := code_word (m := ⟨2, 8⟩) (meth := k2m8) (c := k2c8) (by decide +kernel) rfl rfl rfl (by decide +kernel)
set_option maxRecDepth 65536 in
theorem w_c7 : (Jvm.Cond.code ({ cls := "com/example/cistern/cistern/PoolState", name := "<init>", desc := "(Lcom/example/cistern/cistern/PoolState$Counters;III)V" } : Jvm.MethodName) prog_16_method_1_code (5 : Nat) (Option.none : Option Jvm.ClassFile.FieldType)).before args0 about1 = true := code_word (m := ⟨3, 0⟩) (meth := k3m0) (c := k3c0) (by decide +kernel) rfl rfl rfl (by decide +kernel)
set_option maxRecDepth 65536 in
theorem w_c8 : (Jvm.Cond.code ({ cls := "com/example/cistern/cistern/PoolState", name := "averageMillis", desc := "(JJ)J" } : Jvm.MethodName) prog_16_method_2_code (4 : Nat) (Option.some Jvm.ClassFile.FieldType.long)).before args0 about1 = true := code_word (m := ⟨3, 1⟩) (meth := k3m1) (c := k3c1) (by decide +kernel) rfl rfl rfl (by decide +kernel)
set_option maxRecDepth 65536 in
theorem w_c9 : (Jvm.Cond.code ({ cls := "java/util/concurrent/TimeUnit", name := "toMillis", desc := "(J)J" } : Jvm.MethodName) jdk_2799_method_9_code (7 : Nat) (Option.some Jvm.ClassFile.FieldType.long)).before args0 about1 = true := code_word (m := ⟨8, 0⟩) (meth := k8m0) (c := k8c0) (by decide +kernel) rfl rfl rfl (by decide +kernel)
set_option maxRecDepth 65536 in
theorem w_c10 : (Jvm.Cond.code ({ cls := "com/example/cistern/cistern/CountersAddPinLaw", name := "bit", desc := "(II)J" } : Jvm.MethodName) method_4_code (2 : Nat) (Option.some Jvm.ClassFile.FieldType.long)).before args0 about1 = true := code_word (m := ⟨1, 3⟩) (meth := k1m3) (c := k1c3) (by decide +kernel) rfl rfl rfl (by decide +kernel)
set_option maxRecDepth 65536 in
theorem w_c11 : (Jvm.Cond.code ({ cls := "com/example/cistern/cistern/CountersAddPinLaw", name := "pick", desc := "(IIJ)J" } : Jvm.MethodName) method_5_code (4 : Nat) (Option.some Jvm.ClassFile.FieldType.long)).before args0 about1 = true := code_word (m := ⟨1, 4⟩) (meth := k1m4) (c := k1c4) (by decide +kernel) rfl rfl rfl (by decide +kernel)
set_option maxRecDepth 65536 in
theorem w_c12 : (Jvm.Cond.code ({ cls := "com/example/cistern/cistern/PoolState", name := "getRequestCount", desc := "()J" } : Jvm.MethodName) prog_16_method_3_code (1 : Nat) (Option.some Jvm.ClassFile.FieldType.long)).before args0 about1 = true := code_word (m := ⟨3, 2⟩) (meth := k3m2) (c := k3c2) (by decide +kernel) rfl rfl rfl (by decide +kernel)
set_option maxRecDepth 65536 in
theorem w_c13 : (Jvm.Cond.code ({ cls := "com/example/cistern/cistern/PoolState", name := "getAverageRequestTime", desc := "()J" } : Jvm.MethodName) prog_16_method_4_code (1 : Nat) (Option.some Jvm.ClassFile.FieldType.long)).before args0 about1 = true := code_word (m := ⟨3, 3⟩) (meth := k3m3) (c := k3c3) (by decide +kernel) rfl rfl rfl (by decide +kernel)
set_option maxRecDepth 65536 in
theorem w_c14 : (Jvm.Cond.code ({ cls := "com/example/cistern/cistern/CountersAddPinLaw", name := "avg", desc := "(JJ)J" } : Jvm.MethodName) method_6_code (4 : Nat) (Option.some Jvm.ClassFile.FieldType.long)).before args0 about1 = true := code_word (m := ⟨1, 5⟩) (meth := k1m5) (c := k1c5) (by decide +kernel) rfl rfl rfl (by decide +kernel)
set_option maxRecDepth 65536 in
theorem w_c15 : (Jvm.Cond.code ({ cls := "com/example/cistern/cistern/PoolState", name := "getHadToWaitCount", desc := "()J" } : Jvm.MethodName) prog_16_method_5_code (1 : Nat) (Option.some Jvm.ClassFile.FieldType.long)).before args0 about1 = true := code_word (m := ⟨3, 4⟩) (meth := k3m4) (c := k3c4) (by decide +kernel) rfl rfl rfl (by decide +kernel)
set_option maxRecDepth 65536 in
theorem w_c16 : (Jvm.Cond.code ({ cls := "com/example/cistern/cistern/PoolState", name := "getAverageWaitTime", desc := "()J" } : Jvm.MethodName) prog_16_method_6_code (1 : Nat) (Option.some Jvm.ClassFile.FieldType.long)).before args0 about1 = true := code_word (m := ⟨3, 5⟩) (meth := k3m5) (c := k3c5) (by decide +kernel) rfl rfl rfl (by decide +kernel)
set_option maxRecDepth 65536 in
theorem w_c17 : (Jvm.Cond.code ({ cls := "com/example/cistern/cistern/PoolState", name := "getBadConnectionCount", desc := "()J" } : Jvm.MethodName) prog_16_method_7_code (1 : Nat) (Option.some Jvm.ClassFile.FieldType.long)).before args0 about1 = true := code_word (m := ⟨3, 6⟩) (meth := k3m6) (c := k3c6) (by decide +kernel) rfl rfl rfl (by decide +kernel)
set_option maxRecDepth 65536 in
theorem w_c18 : (Jvm.Cond.code ({ cls := "com/example/cistern/cistern/PoolState", name := "getClaimedOverdueConnectionCount", desc := "()J" } : Jvm.MethodName) prog_16_method_8_code (1 : Nat) (Option.some Jvm.ClassFile.FieldType.long)).before args0 about1 = true := code_word (m := ⟨3, 7⟩) (meth := k3m7) (c := k3c7) (by decide +kernel) rfl rfl rfl (by decide +kernel)
set_option maxRecDepth 65536 in
theorem w_c19 : (Jvm.Cond.code ({ cls := "com/example/cistern/cistern/PoolState", name := "getAverageOverdueCheckoutTime", desc := "()J" } : Jvm.MethodName) prog_16_method_9_code (1 : Nat) (Option.some Jvm.ClassFile.FieldType.long)).before args0 about1 = true := code_word (m := ⟨3, 8⟩) (meth := k3m8) (c := k3c8) (by decide +kernel) rfl rfl rfl (by decide +kernel)
set_option maxRecDepth 65536 in
theorem w_c20 : (Jvm.Cond.code ({ cls := "com/example/cistern/cistern/PoolState", name := "getAverageCheckoutTime", desc := "()J" } : Jvm.MethodName) prog_16_method_10_code (1 : Nat) (Option.some Jvm.ClassFile.FieldType.long)).before args0 about1 = true := code_word (m := ⟨3, 9⟩) (meth := k3m9) (c := k3c9) (by decide +kernel) rfl rfl rfl (by decide +kernel)
set_option maxRecDepth 65536 in
theorem w_c21 : (Jvm.Cond.code ({ cls := "com/example/cistern/cistern/PoolState", name := "getConnectionsOpened", desc := "()J" } : Jvm.MethodName) prog_16_method_14_code (1 : Nat) (Option.some Jvm.ClassFile.FieldType.long)).before args0 about1 = true := code_word (m := ⟨3, 10⟩) (meth := k3m10) (c := k3c10) (by decide +kernel) rfl rfl rfl (by decide +kernel)
set_option maxRecDepth 65536 in
theorem w_c22 : (Jvm.Cond.code ({ cls := "com/example/cistern/cistern/PoolState$Counters", name := "badConnection", desc := "()V" } : Jvm.MethodName) prog_17_method_4_code (1 : Nat) (Option.none : Option Jvm.ClassFile.FieldType)).before args0 about1 = true := code_word (m := ⟨2, 3⟩) (meth := k2m3) (c := k2c3) (by decide +kernel) rfl rfl rfl (by decide +kernel)
set_option maxRecDepth 65536 in
theorem w_c23 : (Jvm.Cond.code ({ cls := "com/example/cistern/cistern/PoolState$Counters", name := "opened", desc := "()V" } : Jvm.MethodName) prog_17_method_5_code (1 : Nat) (Option.none : Option Jvm.ClassFile.FieldType)).before args0 about1 = true := code_word (m := ⟨2, 4⟩) (meth := k2m4) (c := k2c4) (by decide +kernel) rfl rfl rfl (by decide +kernel)
set_option maxRecDepth 65536 in
theorem w_c24 : (Jvm.Cond.code ({ cls := "com/example/cistern/cistern/PoolState$Counters", name := "claimedOverdue", desc := "(J)V" } : Jvm.MethodName) prog_17_method_7_code (3 : Nat) (Option.none : Option Jvm.ClassFile.FieldType)).before args0 about1 = true := code_word (m := ⟨2, 6⟩) (meth := k2m6) (c := k2c6) (by decide +kernel) rfl rfl rfl (by decide +kernel)
set_option maxRecDepth 65536 in
theorem w_c25 : (Jvm.Cond.code ({ cls := "com/example/cistern/cistern/PoolState$Counters", name := "checkedIn", desc := "(J)V" } : Jvm.MethodName) prog_17_method_6_code (3 : Nat) (Option.none : Option Jvm.ClassFile.FieldType)).before args0 about1 = true := code_word (m := ⟨2, 5⟩) (meth := k2m5) (c := k2c5) (by decide +kernel) rfl rfl rfl (by decide +kernel)
set_option maxRecDepth 65536 in
theorem w_c26 : (Jvm.Cond.code ({ cls := "com/example/cistern/cistern/PoolState$Counters", name := "lent", desc := "(J)V" } : Jvm.MethodName) prog_17_method_2_code (3 : Nat) (Option.none : Option Jvm.ClassFile.FieldType)).before args0 about1 = true := code_word (m := ⟨2, 1⟩) (meth := k2m1) (c := k2c1) (by decide +kernel) rfl rfl rfl (by decide +kernel)
def codes1 : List Jvm.Cond := [Jvm.Cond.code x code maxLocals ret, Jvm.Cond.code ({ cls := "com/example/cistern/cistern/PoolState$Counters", name := "<init>", desc := "()V" } : Jvm.MethodName) prog_17_method_1_code (1 : Nat) (Option.none : Option Jvm.ClassFile.FieldType), Jvm.Cond.code ({ cls := "java/lang/Object", name := "<init>", desc := "()V" } : Jvm.MethodName) object_method_1_code (1 : Nat) (Option.none : Option Jvm.ClassFile.FieldType), Jvm.Cond.code ({ cls := "com/example/cistern/cistern/CountersAddPinLaw", name := "fill", desc := "(Lcom/example/cistern/cistern/PoolState$Counters;IJJJJ)V" } : Jvm.MethodName) method_3_code (10 : Nat) (Option.none : Option Jvm.ClassFile.FieldType), Jvm.Cond.code ({ cls := "com/example/cistern/cistern/PoolState$Counters", name := "waited", desc := "(J)V" } : Jvm.MethodName) prog_17_method_3_code (3 : Nat) (Option.none : Option Jvm.ClassFile.FieldType), Jvm.Cond.code ({ cls := "com/example/cistern/cistern/PoolState$Counters", name := "add", desc := "(Lcom/example/cistern/cistern/PoolState$Counters;)V" } : Jvm.MethodName) prog_17_method_8_code (2 : Nat) (Option.none : Option Jvm.ClassFile.FieldType), Jvm.Cond.code ({ cls := "com/example/cistern/cistern/PoolState$Counters", name := "snapshot", desc := "(III)Lcom/example/cistern/cistern/PoolState;" } : Jvm.MethodName) prog_17_method_9_code (4 : Nat) (Option.some (Jvm.ClassFile.FieldType.object "com/example/cistern/cistern/PoolState")), Jvm.Cond.code ({ cls := "com/example/cistern/cistern/PoolState", name := "<init>", desc := "(Lcom/example/cistern/cistern/PoolState$Counters;III)V" } : Jvm.MethodName) prog_16_method_1_code (5 : Nat) (Option.none : Option Jvm.ClassFile.FieldType), Jvm.Cond.code ({ cls := "com/example/cistern/cistern/PoolState", name := "averageMillis", desc := "(JJ)J" } : Jvm.MethodName) prog_16_method_2_code (4 : Nat) (Option.some Jvm.ClassFile.FieldType.long), Jvm.Cond.code ({ cls := "java/util/concurrent/TimeUnit", name := "toMillis", desc := "(J)J" } : Jvm.MethodName) jdk_2799_method_9_code (7 : Nat) (Option.some Jvm.ClassFile.FieldType.long), Jvm.Cond.code ({ cls := "com/example/cistern/cistern/CountersAddPinLaw", name := "bit", desc := "(II)J" } : Jvm.MethodName) method_4_code (2 : Nat) (Option.some Jvm.ClassFile.FieldType.long), Jvm.Cond.code ({ cls := "com/example/cistern/cistern/CountersAddPinLaw", name := "pick", desc := "(IIJ)J" } : Jvm.MethodName) method_5_code (4 : Nat) (Option.some Jvm.ClassFile.FieldType.long), Jvm.Cond.code ({ cls := "com/example/cistern/cistern/PoolState", name := "getRequestCount", desc := "()J" } : Jvm.MethodName) prog_16_method_3_code (1 : Nat) (Option.some Jvm.ClassFile.FieldType.long), Jvm.Cond.code ({ cls := "com/example/cistern/cistern/PoolState", name := "getAverageRequestTime", desc := "()J" } : Jvm.MethodName) prog_16_method_4_code (1 : Nat) (Option.some Jvm.ClassFile.FieldType.long), Jvm.Cond.code ({ cls := "com/example/cistern/cistern/CountersAddPinLaw", name := "avg", desc := "(JJ)J" } : Jvm.MethodName) method_6_code (4 : Nat) (Option.some Jvm.ClassFile.FieldType.long), Jvm.Cond.code ({ cls := "com/example/cistern/cistern/PoolState", name := "getHadToWaitCount", desc := "()J" } : Jvm.MethodName) prog_16_method_5_code (1 : Nat) (Option.some Jvm.ClassFile.FieldType.long), Jvm.Cond.code ({ cls := "com/example/cistern/cistern/PoolState", name := "getAverageWaitTime", desc := "()J" } : Jvm.MethodName) prog_16_method_6_code (1 : Nat) (Option.some Jvm.ClassFile.FieldType.long), Jvm.Cond.code ({ cls := "com/example/cistern/cistern/PoolState", name := "getBadConnectionCount", desc := "()J" } : Jvm.MethodName) prog_16_method_7_code (1 : Nat) (Option.some Jvm.ClassFile.FieldType.long), Jvm.Cond.code ({ cls := "com/example/cistern/cistern/PoolState", name := "getClaimedOverdueConnectionCount", desc := "()J" } : Jvm.MethodName) prog_16_method_8_code (1 : Nat) (Option.some Jvm.ClassFile.FieldType.long), Jvm.Cond.code ({ cls := "com/example/cistern/cistern/PoolState", name := "getAverageOverdueCheckoutTime", desc := "()J" } : Jvm.MethodName) prog_16_method_9_code (1 : Nat) (Option.some Jvm.ClassFile.FieldType.long), Jvm.Cond.code ({ cls := "com/example/cistern/cistern/PoolState", name := "getAverageCheckoutTime", desc := "()J" } : Jvm.MethodName) prog_16_method_10_code (1 : Nat) (Option.some Jvm.ClassFile.FieldType.long), Jvm.Cond.code ({ cls := "com/example/cistern/cistern/PoolState", name := "getConnectionsOpened", desc := "()J" } : Jvm.MethodName) prog_16_method_14_code (1 : Nat) (Option.some Jvm.ClassFile.FieldType.long), Jvm.Cond.code ({ cls := "com/example/cistern/cistern/PoolState$Counters", name := "badConnection", desc := "()V" } : Jvm.MethodName) prog_17_method_4_code (1 : Nat) (Option.none : Option Jvm.ClassFile.FieldType), Jvm.Cond.code ({ cls := "com/example/cistern/cistern/PoolState$Counters", name := "opened", desc := "()V" } : Jvm.MethodName) prog_17_method_5_code (1 : Nat) (Option.none : Option Jvm.ClassFile.FieldType), Jvm.Cond.code ({ cls := "com/example/cistern/cistern/PoolState$Counters", name := "claimedOverdue", desc := "(J)V" } : Jvm.MethodName) prog_17_method_7_code (3 : Nat) (Option.none : Option Jvm.ClassFile.FieldType), Jvm.Cond.code ({ cls := "com/example/cistern/cistern/PoolState$Counters", name := "checkedIn", desc := "(J)V" } : Jvm.MethodName) prog_17_method_6_code (3 : Nat) (Option.none : Option Jvm.ClassFile.FieldType), Jvm.Cond.code ({ cls := "com/example/cistern/cistern/PoolState$Counters", name := "lent", desc := "(J)V" } : Jvm.MethodName) prog_17_method_2_code (3 : Nat) (Option.none : Option Jvm.ClassFile.FieldType)]
set_option maxRecDepth 65536 in
theorem codes_eq : words1.filter isCode = codes1 := rfl
theorem w_codes : ∀ c ∈ words1.filter isCode, c.before args0 about1 = true := by
  rw [codes_eq]
  intro c hc
  simp only [codes1, List.mem_cons, List.not_mem_nil, or_false] at hc
  rcases hc with rfl | rfl | rfl | rfl | rfl | rfl | rfl | rfl | rfl | rfl | rfl | rfl | rfl | rfl | rfl | rfl | rfl | rfl | rfl | rfl | rfl | rfl | rfl | rfl | rfl | rfl | rfl
  · exact w_c0
  · exact w_c1
  · exact w_c2
  · exact w_c3
  · exact w_c4
  · exact w_c5
  · exact w_c6
  · exact w_c7
  · exact w_c8
  · exact w_c9
  · exact w_c10
  · exact w_c11
  · exact w_c12
  · exact w_c13
  · exact w_c14
  · exact w_c15
  · exact w_c16
  · exact w_c17
  · exact w_c18
  · exact w_c19
  · exact w_c20
  · exact w_c21
  · exact w_c22
  · exact w_c23
  · exact w_c24
  · exact w_c25
  · exact w_c26
set_option maxRecDepth 65536 in
theorem w_t1 : (words1.take 24).all (fun c => isCode c || c.before args0 about1) = true := by decide +kernel
set_option maxRecDepth 65536 in
theorem w_t2 : ((words1.drop 24).take 24).all (fun c => isCode c || c.before args0 about1) = true := by decide +kernel
set_option maxRecDepth 65536 in
theorem w_t3 : (((words1.drop 24).drop 24).take 24).all (fun c => isCode c || c.before args0 about1) = true := by decide +kernel
set_option maxRecDepth 65536 in
theorem w_t4 : ((((words1.drop 24).drop 24).drop 24).take 24).all (fun c => isCode c || c.before args0 about1) = true := by decide +kernel
set_option maxRecDepth 65536 in
theorem w_t5 : (((((words1.drop 24).drop 24).drop 24).drop 24).take 24).all (fun c => isCode c || c.before args0 about1) = true := by decide +kernel
set_option maxRecDepth 65536 in
theorem w_t6 : ((((((words1.drop 24).drop 24).drop 24).drop 24).drop 24).take 24).all (fun c => isCode c || c.before args0 about1) = true := by decide +kernel
set_option maxRecDepth 65536 in
theorem w_t7 : (((((((words1.drop 24).drop 24).drop 24).drop 24).drop 24).drop 24).take 24).all (fun c => isCode c || c.before args0 about1) = true := by decide +kernel
set_option maxRecDepth 65536 in
theorem w_t8 : (((((((words1.drop 24).drop 24).drop 24).drop 24).drop 24).drop 24).drop 24).all (fun c => isCode c || c.before args0 about1) = true := by decide +kernel
theorem w_tables : (allAtoms (Jvm.Cond.code x code maxLocals ret :: tables_1)).before args0 about1 = true := by
  rw [allAtoms_all]
  show words1.all (fun c => c.before args0 about1) = true
  refine all_split ?_ w_codes
  rw [← List.take_append_drop 24 words1, List.all_append, w_t1, ← List.take_append_drop 24 (words1.drop 24), List.all_append, w_t2, ← List.take_append_drop 24 ((words1.drop 24).drop 24), List.all_append, w_t3, ← List.take_append_drop 24 (((words1.drop 24).drop 24).drop 24), List.all_append, w_t4, ← List.take_append_drop 24 ((((words1.drop 24).drop 24).drop 24).drop 24), List.all_append, w_t5, ← List.take_append_drop 24 (((((words1.drop 24).drop 24).drop 24).drop 24).drop 24), List.all_append, w_t6, ← List.take_append_drop 24 ((((((words1.drop 24).drop 24).drop 24).drop 24).drop 24).drop 24), List.all_append, w_t7, w_t8]
  rfl
set_option maxRecDepth 65536 in
theorem w_rest : rest_1_c.before args0 about1 = true := by decide +kernel
set_option maxRecDepth 65536 in
theorem w_case : (Jvm.Cond.and given_1 narrow_1).before args0 about1 = true := by decide +kernel
theorem w_applies : (headSpec (Jvm.Cond.code x code maxLocals ret :: tables_1) room_1).applies x e0.platform about1 = true :=
  (Spec.applies_iff w_frames).mpr ⟨w_running, w_runnable, w_alone, w_named, w_hears, w_ripe, w_room, w_tables⟩
theorem atStart : AtStart classFile x code maxLocals ret World_1 tables_1 room_1 Calls_1 rest_1 Pre_1 launch0 p0 e0 about1 theMethod args0 below0 :=
  ⟨lists_1, trivial, launch0.admits_env _ _ _, launch0.least_env, fairChoices_fair.cas, fairChoices_fair.clock, w_frames, w_args, w_heap, w_applies, trivial, w_rest, w_case⟩
end start1
theorem witness_1 : WitnessClaimed_1 := ⟨start1.p0, start1.e0, start1.about1, start1.theMethod, start1.args0, start1.below0, start1.atStart⟩
end Jvm.Pilot.@@N@@
