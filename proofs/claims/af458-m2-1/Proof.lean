import JvmDerived
import JvmDerived.Pilot.@@N@@Statement
import JvmDerived.Pilot.@@N@@Code
set_option linter.unusedVariables false
set_option linter.unusedSimpArgs false
namespace Jvm.Pilot.@@N@@
open Jvm Jvm.ClassFile Sem Op Lib Jvm.Free Jvm.Stand Jvm.LawKit Jvm.RoadKit Bundle Jvm.Pilot.@@N@@.Jvm.D
theorem own_cat {v : Value} (h : v.isRef = true) : v.category = 1 := by cases v <;> first | rfl | (simp [Value.isRef] at h)
theorem own_cr (a : Addr) : (Value.ref a).category = 1 := rfl
theorem own_ci (a : Int32) : (Value.int a).category = 1 := rfl
theorem own_cj (a : Int64) : (Value.long a).category = 2 := rfl
theorem own_cn : Value.null.category = 1 := rfl
theorem own_nar {v : Value} {t : FieldType} (ht : t.isReference = true) (h : v.isRef = true) : narrow t v = v := by
  rcases ref_cases h with rfl | ⟨a, rfl⟩ <;> cases t <;> first | rfl | (simp [FieldType.isReference] at ht)
theorem own_fits {v : Value} {t : FieldType} (ht : t.isReference = true) (h : v.isRef = true) : fits t v = true := by
  rcases ref_cases h with rfl | ⟨a, rfl⟩ <;> cases t <;> first | rfl | (simp [FieldType.isReference] at ht)
theorem own_store {l l' : Array Slot} {i : Nat} {v : Value} {o : Slot} (hold : l[i]? = some o) (ho : o = .unset ∨ ∃ w, o = .val w ∧ w.category = 1) (hv : v.category = 1) (e : l.setIfInBounds i (.val v) = l') : storeLocals l i v = some l' := by
  rw [Jvm.Free.XS.store1 hold ho hv, e]
def Glob (Z : State) (a0 : Array Value) (ns : Addr) : Prop := (∀ d ∈ tables_1, d.before a0 Z = true) ∧ (Sta Z Z.heap "java/util/concurrent/TimeUnit" "NANOSECONDS" "Ljava/util/concurrent/TimeUnit;" (.ref ns)) ∧ (Exa Z Z.heap ns "java/util/concurrent/TimeUnit") ∧ (Fld Z Z.heap ns "java/util/concurrent/TimeUnit" "scale" "J" (.long (1 : Int64))) ∧ (Fld Z Z.heap ns "java/util/concurrent/TimeUnit" "milliRatio" "I" (.int (1000000 : Int32)))
theorem getFR {p : Program} {l : Launch} {e : Env} {R : Room} {s : State} {m : MethodId} {args : Array Value} {below : List Frame} {meth : Method} {c : Code} {T : State} {locs : List Loc} {cells slots : Nat} {Z : State} {a0 : Array Value} {h : Heap}
    (X : Stand p l e R s m args below meth c T locs cells slots) (hx : p.tables.exec = Jvm.exec) (hZ : Z.Warmed39 s.vm) {own O n d : String} {index : Nat} (hown : s.vm.findClass own = some m.cls) (w : (Jvm.Cond.fieldRef own index O n d).before a0 Z = true)
    (eT : T.heap = h) {a : Addr} {v : Value} (F : Fld Z h a O n d v) {g : JFrame} (hg : g.method = m) {rest : List Value} (hs : g.stack = .ref a :: rest) (hd : decode c.code g.pc = .ok (.getfield index, 3)) (target : State)
    (hr : Steps p.tables e below (T.setTop { g with pc := g.pc + 3, stack := v :: rest }) target) : Steps p.tables e below (T.setTop g) target := by
  obtain ⟨cell, cf, k, i, f, h1, h2, h3, h4, h5, h6, h7⟩ := F
  have hT : Z.Warmed39 T.vm := wtrans hZ X.warmed
  have w' := Cond.fieldRef_warmed39 hT w
  have hown' : (Z.setVm T.vm).vm.findClass own = some m.cls := by
    show T.vm.findClass own = _
    rw [X.warmed.alike.findClass]; exact hown
  obtain ⟨k', hi, -⟩ := State.fieldFound?_setVm (s := Z) hT.alike h2
  obtain ⟨c2, k2, i2, f2, hi2, hready⟩ := Cond.fieldRef_spec hown' w'
  cases hi.symm.trans hi2
  subst hg
  jvm_step X.here [X.here.top, hx, hd, getfield.wp_ready (e := e) (s := T) (f := g) X.here.top hready h3 hs (show T.heap[a]? = some cell by rw [eT]; exact h1) h4 h7]
  exact hr
def own_avg (t n : Int64) : Int64 := if n = 0 then 0 else (t / n) / ((1000000 : Int32).toInt64)
theorem own_avg0 {t n : Int64} (h : n = 0) : own_avg t n = 0 := if_pos h
theorem own_avg1 {t n : Int64} (h : ¬ n = 0) : own_avg t n = (t / n) / ((1000000 : Int32).toInt64) := if_neg h
theorem own_million : (1000000 : Int32).toInt64 = (1000000 : Int64) := by decide +kernel
theorem own_avg_eq {t n d : Int64} (h : ¬ n = 0) (e : n = d) : own_avg t n = t / d / (1000000 : Int64) := by subst e; rw [own_avg1 h, own_million]
theorem own_and3 (x : Int32) : x &&& 3 = 0 ∨ x &&& 3 = 1 ∨ x &&& 3 = 2 ∨ x &&& 3 = 3 := by
  have t : ∀ k : Fin 4, Int32.ofNat k.val = 0 ∨ Int32.ofNat k.val = 1 ∨ Int32.ofNat k.val = 2 ∨ Int32.ofNat k.val = 3 := by decide +kernel
  have h : (x &&& 3).toBitVec.toNat < 4 := by
    simp only [Int32.toBitVec_and, BitVec.toNat_and]
    exact Nat.lt_succ_of_le Nat.and_le_right
  have e : (x &&& 3) = Int32.ofNat (x &&& 3).toBitVec.toNat := by
    apply Int32.toBitVec_inj.mp
    show _ = BitVec.ofNat 32 _
    rw [BitVec.ofNat_toNat]; simp
  rw [e]
  exact t ⟨_, h⟩
theorem dx_jdk_2799_method_9_code_0 : decode jdk_2799_method_9_code 0 = .ok (.aload_n 0, 1) := by decide +kernel
theorem dx_jdk_2799_method_9_code_1 : decode jdk_2799_method_9_code 1 = .ok (.getfield 44, 3) := by decide +kernel
theorem dx_jdk_2799_method_9_code_4 : decode jdk_2799_method_9_code 4 = .ok (.dup2, 1) := by decide +kernel
theorem dx_jdk_2799_method_9_code_5 : decode jdk_2799_method_9_code 5 = .ok (.lstore_n 3, 1) := by decide +kernel
theorem dx_jdk_2799_method_9_code_6 : decode jdk_2799_method_9_code 6 = .ok (.ldc2_w 63, 3) := by decide +kernel
theorem dx_jdk_2799_method_9_code_9 : decode jdk_2799_method_9_code 9 = .ok (.lcmp, 1) := by decide +kernel
theorem dx_jdk_2799_method_9_code_10 : decode jdk_2799_method_9_code 10 = .ok (.ifCond .gt 23, 3) := by decide +kernel
theorem dx_jdk_2799_method_9_code_13 : decode jdk_2799_method_9_code 13 = .ok (.lload_n 3, 1) := by decide +kernel
theorem dx_jdk_2799_method_9_code_14 : decode jdk_2799_method_9_code 14 = .ok (.ldc2_w 63, 3) := by decide +kernel
theorem dx_jdk_2799_method_9_code_17 : decode jdk_2799_method_9_code 17 = .ok (.lcmp, 1) := by decide +kernel
theorem dx_jdk_2799_method_9_code_18 : decode jdk_2799_method_9_code 18 = .ok (.ifCond .ne 7, 3) := by decide +kernel
theorem dx_jdk_2799_method_9_code_25 : decode jdk_2799_method_9_code 25 = .ok (.lload_n 1, 1) := by decide +kernel
theorem dx_jdk_2799_method_9_code_26 : decode jdk_2799_method_9_code 26 = .ok (.aload_n 0, 1) := by decide +kernel
theorem dx_jdk_2799_method_9_code_27 : decode jdk_2799_method_9_code 27 = .ok (.getfield 65, 3) := by decide +kernel
theorem dx_jdk_2799_method_9_code_30 : decode jdk_2799_method_9_code 30 = .ok (.i2l, 1) := by decide +kernel
theorem dx_jdk_2799_method_9_code_31 : decode jdk_2799_method_9_code 31 = .ok (.ldiv, 1) := by decide +kernel
theorem dx_jdk_2799_method_9_code_32 : decode jdk_2799_method_9_code 32 = .ok (.lreturn, 1) := by decide +kernel
def Qms (Z : State) (ns : Addr) (q : Int64) (h0 : Heap) (n0 : Nat) (v : Option Value) (h : Heap) (L : List Loc) : Prop := v = some (.long (q / ((1000000 : Int32).toInt64))) ∧ Fr n0 L ∧ h = h0
theorem ef_jdk_2799_method_9_code_RJ (m : MethodId) (x0 : Addr) (x1 : Int64) : entryFrame m #[(.ref x0), (.long x1)] 7 = mkF m 0 #[.val (.ref x0), .val (.long x1), .second, .unset, .unset, .unset, .unset] [] := by first | (simp [entryFrame, mkF, argsToLocals, Value.category]; done) | rfl
abbrev y0 : MethodName := ⟨"java/util/concurrent/TimeUnit", "toMillis", "(J)J"⟩
theorem pn_java_util_concurrent_TimeUnit : plainName "java/util/concurrent/TimeUnit" = true := by first | (simp [plainName, overriddenIn]; done) | decide +kernel
set_option maxRecDepth 65536 in
set_option maxHeartbeats 40000000 in
theorem rmms (l : Launch) (Z : State) (a0 : Array Value) (ns : Addr) (hG : Glob Z a0 ns) (ws : List Jvm.Cond) (q : Int64) (h0 : Heap) (n0 : Nat) (Z0 : n0 ≤ h0.size) (X00 : Old Z n0 h0) :
    MetFree l y0 (head1 (Jvm.Cond.code y0 jdk_2799_method_9_code 7 (some .long) :: ws) ({ frames := 0, cells := 0, slots := 0, locals := 0 } : Room)) (fun a U => a = #[(.ref ns), (.long q)] ∧ Z.Warmed39 U.vm ∧ U.heap = h0) (fun _ _ _ _ _ => True) (fun _ U o U' => ∃ v L, o = .returned v ∧ Qms Z ns q h0 n0 v U'.heap L ∧ FrameEnd U o U' L ({ frames := 0, cells := 0, slots := 0, locals := 0 } : Room).cells ({ frames := 0, cells := 0, slots := 0, locals := 0 } : Room).slots) := by
  obtain ⟨hw, O_ns, O_ens, O_scale, O_ratio⟩ := id hG
  have W : ∀ (i : Nat) {d : Jvm.Cond}, tables_1[i]? = some d → d.before a0 Z = true := fun i d h => hw d (List.mem_of_getElem? h)
  refine MetFree.of_bodySF (plainFor_of_name pn_java_util_concurrent_TimeUnit) hisR ?_
  intro p e s m args below meth c s₁ Bd hml0 hP hK
  obtain ⟨rfl, hZ, hh⟩ := hP
  have hx := Bd.exec
  have hby := Bd.bytes
  have hml : c.maxLocals = 7 := hml0
  have hown : s.vm.findClass "java/util/concurrent/TimeUnit" = some m.cls := findClass_of_methodNamed Bd.named
  have hnm := (name_of_methodNamed Bd.named Bd.method).1
  have X0 : Stand p l e ({ frames := 0, cells := 0, slots := 0, locals := 0 } : Room) s m #[(.ref ns), (.long q)] below meth c s₁ [] 0 0 := Stand.of_body Bd
  have e0 : s₁.heap = h0 := by rw [← hh, Bd.state]; rfl
  have N0 := Fr.nil n0
  have pre0 : ∀ t, Steps p.tables e below (s₁.setTop (mkF m 0 #[.val (.ref ns), .val (.long q), .second, .unset, .unset, .unset, .unset] [])) t → Steps p.tables e below (s₁.setTop (entryFrame m #[(.ref ns), (.long q)] 7)) t := fun t kk_ => castTop (ef_jdk_2799_method_9_code_RJ m ns q) kk_
  obtain ⟨T1, X1, e1, st1⟩ := getF X0 hx hZ hown (host := "") (Or.inl (W 107 rfl)) Via.refl e0 (O_scale.ext X00.2) (g := (mkF m 1 #[.val (.ref ns), .val (.long q), .second, .unset, .unset, .unset, .unset] [(.ref ns)])) rfl rfl (hb hby dx_jdk_2799_method_9_code_1)
  obtain ⟨T2, X2, e2, st2⟩ := getF X1 hx hZ hown (host := "") (Or.inl (W 110 rfl)) Via.refl e1 (O_ratio.ext X00.2) (g := (mkF m 27 #[.val (.ref ns), .val (.long q), .second, .val (.long (1 : Int64)), .second, .unset, .unset] [(.ref ns), (.long q)])) rfl rfl (hb hby dx_jdk_2799_method_9_code_27)
  obtain ⟨fs, hr, hrun, hended, hW, hsame⟩ := X2.leave (v := some (.long (q / ((1000000 : Int32).toInt64)))) (fun h => by rw [Bd.returns] at h; cases h)
  refine ⟨_, _, pre0 _ ?_, hrun, hended, _, _, rfl, ?_, ⟨_, rfl⟩, hW, hsame.mono (Nat.le_of_ble_eq_true rfl) (Nat.le_of_ble_eq_true rfl)⟩
  · show Steps p.tables e below (s₁.setTop (mkF m 0 #[.val (.ref ns), .val (.long q), .second, .unset, .unset, .unset, .unset] [])) _
    refine XS.aloadN X0.here hx rfl (hb hby dx_jdk_2799_method_9_code_0) rfl rfl ?_
    show Steps p.tables e below (s₁.setTop (mkF m 1 #[.val (.ref ns), .val (.long q), .second, .unset, .unset, .unset, .unset] [(.ref ns)])) _
    refine st1 _ ?_
    show Steps p.tables e below (T1.setTop (mkF m 4 #[.val (.ref ns), .val (.long q), .second, .unset, .unset, .unset, .unset] [(.long (1 : Int64))])) _
    refine Jvm.Free.XT.dup2L X1.here hx rfl (hb hby dx_jdk_2799_method_9_code_4) rfl ?_
    show Steps p.tables e below (T1.setTop (mkF m 5 #[.val (.ref ns), .val (.long q), .second, .unset, .unset, .unset, .unset] [(.long (1 : Int64)), (.long (1 : Int64))])) _
    refine XS.lstoreN X1.here hx rfl (hb hby dx_jdk_2799_method_9_code_5) rfl (l' := #[.val (.ref ns), .val (.long q), .second, .val (.long (1 : Int64)), .second, .unset, .unset]) rfl ?_
    show Steps p.tables e below (T1.setTop (mkF m 6 #[.val (.ref ns), .val (.long q), .second, .val (.long (1 : Int64)), .second, .unset, .unset] [(.long (1 : Int64))])) _
    refine X1.ldc2Long hx hown (mvT hZ (W 109 rfl)) (g := (mkF m 6 #[.val (.ref ns), .val (.long q), .second, .val (.long (1 : Int64)), .second, .unset, .unset] [(.long (1 : Int64))])) rfl (hb hby dx_jdk_2799_method_9_code_6) _ ?_
    show Steps p.tables e below (T1.setTop (mkF m 9 #[.val (.ref ns), .val (.long q), .second, .val (.long (1 : Int64)), .second, .unset, .unset] [(.long (1000000 : Int64)), (.long (1 : Int64))])) _
    refine XS.lcmp X1.here hx rfl (hb hby dx_jdk_2799_method_9_code_9) rfl ?_
    show Steps p.tables e below (T1.setTop (mkF m 10 #[.val (.ref ns), .val (.long q), .second, .val (.long (1 : Int64)), .second, .unset, .unset] [(.int (lcmpW (1 : Int64) (1000000 : Int64)))])) _
    refine XS.ifNo X1.here hx rfl (hb hby dx_jdk_2799_method_9_code_10) rfl ((if0 _ _).trans (flt (by decide : ¬ ((0 : Int32) < (lcmpW (1 : Int64) (1000000 : Int64))))).2.2.1) ?_
    show Steps p.tables e below (T1.setTop (mkF m 13 #[.val (.ref ns), .val (.long q), .second, .val (.long (1 : Int64)), .second, .unset, .unset] [])) _
    refine XS.lloadN X1.here hx rfl (hb hby dx_jdk_2799_method_9_code_13) rfl ?_
    show Steps p.tables e below (T1.setTop (mkF m 14 #[.val (.ref ns), .val (.long q), .second, .val (.long (1 : Int64)), .second, .unset, .unset] [(.long (1 : Int64))])) _
    refine X1.ldc2Long hx hown (mvT hZ (W 109 rfl)) (g := (mkF m 14 #[.val (.ref ns), .val (.long q), .second, .val (.long (1 : Int64)), .second, .unset, .unset] [(.long (1 : Int64))])) rfl (hb hby dx_jdk_2799_method_9_code_14) _ ?_
    show Steps p.tables e below (T1.setTop (mkF m 17 #[.val (.ref ns), .val (.long q), .second, .val (.long (1 : Int64)), .second, .unset, .unset] [(.long (1000000 : Int64)), (.long (1 : Int64))])) _
    refine XS.lcmp X1.here hx rfl (hb hby dx_jdk_2799_method_9_code_17) rfl ?_
    show Steps p.tables e below (T1.setTop (mkF m 18 #[.val (.ref ns), .val (.long q), .second, .val (.long (1 : Int64)), .second, .unset, .unset] [(.int (lcmpW (1 : Int64) (1000000 : Int64)))])) _
    refine XS.ifYes X1.here hx rfl (pc0 := 18) (pc' := 25) rfl (hb hby dx_jdk_2799_method_9_code_18) rfl ((if0 _ _).trans (feq (by decide : ¬ ((lcmpW (1 : Int64) (1000000 : Int64)) = (0 : Int32)))).2) (by decide) (by decide) ?_
    show Steps p.tables e below (T1.setTop (mkF m 25 #[.val (.ref ns), .val (.long q), .second, .val (.long (1 : Int64)), .second, .unset, .unset] [])) _
    refine XS.lloadN X1.here hx rfl (hb hby dx_jdk_2799_method_9_code_25) rfl ?_
    show Steps p.tables e below (T1.setTop (mkF m 26 #[.val (.ref ns), .val (.long q), .second, .val (.long (1 : Int64)), .second, .unset, .unset] [(.long q)])) _
    refine XS.aloadN X1.here hx rfl (hb hby dx_jdk_2799_method_9_code_26) rfl rfl ?_
    show Steps p.tables e below (T1.setTop (mkF m 27 #[.val (.ref ns), .val (.long q), .second, .val (.long (1 : Int64)), .second, .unset, .unset] [(.ref ns), (.long q)])) _
    refine st2 _ ?_
    show Steps p.tables e below (T2.setTop (mkF m 30 #[.val (.ref ns), .val (.long q), .second, .val (.long (1 : Int64)), .second, .unset, .unset] [(.int (1000000 : Int32)), (.long q)])) _
    refine XS.i2l X2.here hx rfl (hb hby dx_jdk_2799_method_9_code_30) rfl ?_
    show Steps p.tables e below (T2.setTop (mkF m 31 #[.val (.ref ns), .val (.long q), .second, .val (.long (1 : Int64)), .second, .unset, .unset] [(.long ((1000000 : Int32).toInt64)), (.long q)])) _
    refine XS.ldiv X2.here hx rfl (hb hby dx_jdk_2799_method_9_code_31) rfl (by decide) ?_
    show Steps p.tables e below (T2.setTop (mkF m 32 #[.val (.ref ns), .val (.long q), .second, .val (.long (1 : Int64)), .second, .unset, .unset] [(.long (q / ((1000000 : Int32).toInt64)))])) _
    exact retOut X2 hx Bd.returns rfl (Or.inr (Or.inl ⟨rfl, rfl, _, rfl⟩)) (hb hby dx_jdk_2799_method_9_code_32) hr
  · show Qms Z ns q h0 n0 _ T2.heap _
    rw [e2]
    exact ⟨rfl, N0, rfl⟩
theorem dx_prog_16_method_2_code_0 : decode prog_16_method_2_code 0 = .ok (.lload_n 2, 1) := by decide +kernel
theorem dx_prog_16_method_2_code_1 : decode prog_16_method_2_code 1 = .ok (.lconst 0, 1) := by decide +kernel
theorem dx_prog_16_method_2_code_2 : decode prog_16_method_2_code 2 = .ok (.lcmp, 1) := by decide +kernel
theorem dx_prog_16_method_2_code_3 : decode prog_16_method_2_code 3 = .ok (.ifCond .ne 7, 3) := by decide +kernel
theorem dx_prog_16_method_2_code_6 : decode prog_16_method_2_code 6 = .ok (.lconst 0, 1) := by decide +kernel
theorem dx_prog_16_method_2_code_7 : decode prog_16_method_2_code 7 = .ok (.goto 12, 3) := by decide +kernel
theorem dx_prog_16_method_2_code_19 : decode prog_16_method_2_code 19 = .ok (.lreturn, 1) := by decide +kernel
theorem dx_prog_16_method_2_code_10 : decode prog_16_method_2_code 10 = .ok (.getstatic 75, 3) := by decide +kernel
theorem dx_prog_16_method_2_code_13 : decode prog_16_method_2_code 13 = .ok (.lload_n 0, 1) := by decide +kernel
theorem dx_prog_16_method_2_code_14 : decode prog_16_method_2_code 14 = .ok (.lload_n 2, 1) := by decide +kernel
theorem dx_prog_16_method_2_code_15 : decode prog_16_method_2_code 15 = .ok (.ldiv, 1) := by decide +kernel
theorem dx_prog_16_method_2_code_16 : decode prog_16_method_2_code 16 = .ok (.invokevirtual 81, 3) := by decide +kernel
theorem pd__J_J : parseMethodDescriptor "(J)J" = some ⟨[.long], some .long⟩ := by decide +kernel
def Qavg (Z : State) (ns : Addr) (q1 : Int64) (q2 : Int64) (h0 : Heap) (n0 : Nat) (v : Option Value) (h : Heap) (L : List Loc) : Prop := v = some (.long (own_avg q1 q2)) ∧ Fr n0 L ∧ h = h0
theorem ef_prog_16_method_2_code_JJ (m : MethodId) (x0 : Int64) (x1 : Int64) : entryFrame m #[(.long x0), (.long x1)] 4 = mkF m 0 #[.val (.long x0), .second, .val (.long x1), .second] [] := by first | (simp [entryFrame, mkF, argsToLocals, Value.category]; done) | rfl
abbrev y1 : MethodName := ⟨"com/example/cistern/cistern/PoolState", "averageMillis", "(JJ)J"⟩
theorem pn_com_example_cistern_cistern_PoolState : plainName "com/example/cistern/cistern/PoolState" = true := by first | (simp [plainName, overriddenIn]; done) | decide +kernel
set_option maxRecDepth 65536 in
set_option maxHeartbeats 40000000 in
theorem rmavg_z (l : Launch) (Z : State) (a0 : Array Value) (ns : Addr) (hG : Glob Z a0 ns) (ws : List Jvm.Cond) (q1 : Int64) (q2 : Int64) (h0 : Heap) (n0 : Nat) (Z0 : n0 ≤ h0.size) (X00 : Old Z n0 h0) (hz : q2 = (0 : Int64)) :
    MetFree l y1 (head1 (Jvm.Cond.code y1 prog_16_method_2_code 4 (some .long) :: ws) ({ frames := 1, cells := 0, slots := 0, locals := 18 } : Room)) (fun a U => a = #[(.long q1), (.long q2)] ∧ Z.Warmed39 U.vm ∧ U.heap = h0) (fun _ _ _ _ _ => True) (fun _ U o U' => ∃ v L, o = .returned v ∧ Qavg Z ns q1 q2 h0 n0 v U'.heap L ∧ FrameEnd U o U' L ({ frames := 1, cells := 0, slots := 0, locals := 18 } : Room).cells ({ frames := 1, cells := 0, slots := 0, locals := 18 } : Room).slots) := by
  obtain ⟨hw, O_ns, O_ens, O_scale, O_ratio⟩ := id hG
  have W : ∀ (i : Nat) {d : Jvm.Cond}, tables_1[i]? = some d → d.before a0 Z = true := fun i d h => hw d (List.mem_of_getElem? h)
  refine MetFree.of_bodySF (plainFor_of_name pn_com_example_cistern_cistern_PoolState) hisR ?_
  intro p e s m args below meth c s₁ Bd hml0 hP hK
  obtain ⟨rfl, hZ, hh⟩ := hP
  have hx := Bd.exec
  have hby := Bd.bytes
  have hml : c.maxLocals = 4 := hml0
  have hown : s.vm.findClass "com/example/cistern/cistern/PoolState" = some m.cls := findClass_of_methodNamed Bd.named
  have hnm := (name_of_methodNamed Bd.named Bd.method).1
  have X0 : Stand p l e ({ frames := 1, cells := 0, slots := 0, locals := 18 } : Room) s m #[(.long q1), (.long q2)] below meth c s₁ [] 0 0 := Stand.of_body Bd
  have e0 : s₁.heap = h0 := by rw [← hh, Bd.state]; rfl
  have N0 := Fr.nil n0
  have pre0 : ∀ t, Steps p.tables e below (s₁.setTop (mkF m 0 #[.val (.long q1), .second, .val (.long q2), .second] [])) t → Steps p.tables e below (s₁.setTop (entryFrame m #[(.long q1), (.long q2)] 4)) t := fun t kk_ => castTop (ef_prog_16_method_2_code_JJ m q1 q2) kk_
  obtain ⟨fs, hr, hrun, hended, hW, hsame⟩ := X0.leave (v := some (.long (0 : Int64))) (fun h => by rw [Bd.returns] at h; cases h)
  refine ⟨_, _, pre0 _ ?_, hrun, hended, _, _, rfl, ?_, ⟨_, rfl⟩, hW, hsame.mono (Nat.le_of_ble_eq_true rfl) (Nat.le_of_ble_eq_true rfl)⟩
  · show Steps p.tables e below (s₁.setTop (mkF m 0 #[.val (.long q1), .second, .val (.long q2), .second] [])) _
    refine XS.lloadN X0.here hx rfl (hb hby dx_prog_16_method_2_code_0) rfl ?_
    show Steps p.tables e below (s₁.setTop (mkF m 1 #[.val (.long q1), .second, .val (.long q2), .second] [(.long q2)])) _
    refine XS.lconst X0.here hx rfl (hb hby dx_prog_16_method_2_code_1) ?_
    show Steps p.tables e below (s₁.setTop (mkF m 2 #[.val (.long q1), .second, .val (.long q2), .second] [(.long (0 : Int64)), (.long q2)])) _
    refine XS.lcmp X0.here hx rfl (hb hby dx_prog_16_method_2_code_2) rfl ?_
    show Steps p.tables e below (s₁.setTop (mkF m 3 #[.val (.long q1), .second, .val (.long q2), .second] [(.int (lcmpW q2 (0 : Int64)))])) _
    refine XS.ifNo X0.here hx rfl (hb hby dx_prog_16_method_2_code_3) rfl ((if0 _ _).trans (teq ((lw_eq _ _).mpr hz : (lcmpW q2 (0 : Int64)) = (0 : Int32))).2) ?_
    show Steps p.tables e below (s₁.setTop (mkF m 6 #[.val (.long q1), .second, .val (.long q2), .second] [])) _
    refine XS.lconst X0.here hx rfl (hb hby dx_prog_16_method_2_code_6) ?_
    show Steps p.tables e below (s₁.setTop (mkF m 7 #[.val (.long q1), .second, .val (.long q2), .second] [(.long (0 : Int64))])) _
    refine XS.goto X0.here hx rfl (pc0 := 7) (pc' := 19) rfl (hb hby dx_prog_16_method_2_code_7) (by decide) (by decide) ?_
    show Steps p.tables e below (s₁.setTop (mkF m 19 #[.val (.long q1), .second, .val (.long q2), .second] [(.long (0 : Int64))])) _
    exact retOut X0 hx Bd.returns rfl (Or.inr (Or.inl ⟨rfl, rfl, _, rfl⟩)) (hb hby dx_prog_16_method_2_code_19) hr
  · show Qavg Z ns q1 q2 h0 n0 _ s₁.heap _
    rw [e0]
    exact ⟨(by rw [own_avg0 hz]), N0, rfl⟩
set_option maxRecDepth 65536 in
set_option maxHeartbeats 40000000 in
theorem rmavg_n (l : Launch) (Z : State) (a0 : Array Value) (ns : Addr) (hG : Glob Z a0 ns) (ws : List Jvm.Cond) (q1 : Int64) (q2 : Int64) (h0 : Heap) (n0 : Nat) (Z0 : n0 ≤ h0.size) (X00 : Old Z n0 h0) (hz : ¬ (q2 = (0 : Int64))) :
    MetFree l y1 (head1 (Jvm.Cond.code y1 prog_16_method_2_code 4 (some .long) :: ws) ({ frames := 1, cells := 0, slots := 0, locals := 18 } : Room)) (fun a U => a = #[(.long q1), (.long q2)] ∧ Z.Warmed39 U.vm ∧ U.heap = h0) (fun _ _ _ _ _ => True) (fun _ U o U' => ∃ v L, o = .returned v ∧ Qavg Z ns q1 q2 h0 n0 v U'.heap L ∧ FrameEnd U o U' L ({ frames := 1, cells := 0, slots := 0, locals := 18 } : Room).cells ({ frames := 1, cells := 0, slots := 0, locals := 18 } : Room).slots) := by
  obtain ⟨hw, O_ns, O_ens, O_scale, O_ratio⟩ := id hG
  have W : ∀ (i : Nat) {d : Jvm.Cond}, tables_1[i]? = some d → d.before a0 Z = true := fun i d h => hw d (List.mem_of_getElem? h)
  refine MetFree.of_bodySF (plainFor_of_name pn_com_example_cistern_cistern_PoolState) hisR ?_
  intro p e s m args below meth c s₁ Bd hml0 hP hK
  obtain ⟨rfl, hZ, hh⟩ := hP
  have hx := Bd.exec
  have hby := Bd.bytes
  have hml : c.maxLocals = 4 := hml0
  have hown : s.vm.findClass "com/example/cistern/cistern/PoolState" = some m.cls := findClass_of_methodNamed Bd.named
  have hnm := (name_of_methodNamed Bd.named Bd.method).1
  have X0 : Stand p l e ({ frames := 1, cells := 0, slots := 0, locals := 18 } : Room) s m #[(.long q1), (.long q2)] below meth c s₁ [] 0 0 := Stand.of_body Bd
  have e0 : s₁.heap = h0 := by rw [← hh, Bd.state]; rfl
  have N0 := Fr.nil n0
  have pre0 : ∀ t, Steps p.tables e below (s₁.setTop (mkF m 0 #[.val (.long q1), .second, .val (.long q2), .second] [])) t → Steps p.tables e below (s₁.setTop (entryFrame m #[(.long q1), (.long q2)] 4)) t := fun t kk_ => castTop (ef_prog_16_method_2_code_JJ m q1 q2) kk_
  obtain ⟨T3, X3, e3, st3⟩ := getS2 X0 hx hZ hown (host := "") (Or.inl (W 100 rfl)) Via.refl e0 (O_ns.ext X00.2) (g := (mkF m 10 #[.val (.long q1), .second, .val (.long q2), .second] [])) rfl (hb hby dx_prog_16_method_2_code_10)
  obtain ⟨cq4, kq4, q4a, q4b, q4c⟩ := isOf hZ e3 (O_ens.ext X00.2)
  -- pc 16: java/util/concurrent/TimeUnit.toMillis
  obtain ⟨_, _, ⟨T4, L4, k4, n4⟩, -, X4, ⟨Lc4, hQ4, l4, y4, z4⟩, st4⟩ := X3.virtualBack hx (y := y0) (z := y0) hown (mvT hZ (W 102 rfl)) (mvT hZ (W 103 rfl)) (notFace_of_selects (args := #[]) (mvT hZ (W 105 rfl))) (mvT hZ (W 105 rfl)) (mvT hZ (W 104 rfl)) (by decide) (backOf (W := 0) (rmms l Z a0 ns hG [] (q1 / q2) h0 n0 Z0 X00) hZ (W 106 rfl) (W 101 rfl) (by decide) (by decide)) q4a q4c (g := (mkF m 16 #[.val (.long q1), .second, .val (.long q2), .second] [(.long (q1 / q2)), (.ref ns)])) rfl (by rw [hml]; rfl) (Steps.refl _) (argsL := [(.long (q1 / q2))]) (rest := []) (lenOf pd__J_J rfl) rfl (by show 2 * 0 + _ ≤ _; exact Nat.le_of_eq rfl) (hb hby dx_prog_16_method_2_code_16) (fun _ _ => ⟨rfl, e3, (by decide : 0 + 0 ≤ _), (by decide : 0 + 0 ≤ _)⟩)
  dsimp only [Pt.U, Pt.locs, Pt.cells, Pt.slots] at X4 l4 y4 z4 st4 hQ4
  subst l4 y4 z4
  obtain ⟨rfl, N4q, eq4⟩ := hQ4
  have N4 := Fr.app N0 N4q
  obtain ⟨fs, hr, hrun, hended, hW, hsame⟩ := X4.leave (v := some (.long ((q1 / q2) / ((1000000 : Int32).toInt64)))) (fun h => by rw [Bd.returns] at h; cases h)
  refine ⟨_, _, pre0 _ ?_, hrun, hended, _, _, rfl, ?_, ⟨_, rfl⟩, hW, hsame.mono (Nat.le_of_ble_eq_true rfl) (Nat.le_of_ble_eq_true rfl)⟩
  · show Steps p.tables e below (s₁.setTop (mkF m 0 #[.val (.long q1), .second, .val (.long q2), .second] [])) _
    refine XS.lloadN X0.here hx rfl (hb hby dx_prog_16_method_2_code_0) rfl ?_
    show Steps p.tables e below (s₁.setTop (mkF m 1 #[.val (.long q1), .second, .val (.long q2), .second] [(.long q2)])) _
    refine XS.lconst X0.here hx rfl (hb hby dx_prog_16_method_2_code_1) ?_
    show Steps p.tables e below (s₁.setTop (mkF m 2 #[.val (.long q1), .second, .val (.long q2), .second] [(.long (0 : Int64)), (.long q2)])) _
    refine XS.lcmp X0.here hx rfl (hb hby dx_prog_16_method_2_code_2) rfl ?_
    show Steps p.tables e below (s₁.setTop (mkF m 3 #[.val (.long q1), .second, .val (.long q2), .second] [(.int (lcmpW q2 (0 : Int64)))])) _
    refine XS.ifYes X0.here hx rfl (pc0 := 3) (pc' := 10) rfl (hb hby dx_prog_16_method_2_code_3) rfl ((if0 _ _).trans (feq (fun q => hz ((lw_eq _ _).mp q) : ¬ ((lcmpW q2 (0 : Int64)) = (0 : Int32)))).2) (by decide) (by decide) ?_
    show Steps p.tables e below (s₁.setTop (mkF m 10 #[.val (.long q1), .second, .val (.long q2), .second] [])) _
    refine st3 _ ?_
    show Steps p.tables e below (T3.setTop (mkF m 13 #[.val (.long q1), .second, .val (.long q2), .second] [(.ref ns)])) _
    refine XS.lloadN X3.here hx rfl (hb hby dx_prog_16_method_2_code_13) rfl ?_
    show Steps p.tables e below (T3.setTop (mkF m 14 #[.val (.long q1), .second, .val (.long q2), .second] [(.long q1), (.ref ns)])) _
    refine XS.lloadN X3.here hx rfl (hb hby dx_prog_16_method_2_code_14) rfl ?_
    show Steps p.tables e below (T3.setTop (mkF m 15 #[.val (.long q1), .second, .val (.long q2), .second] [(.long q2), (.long q1), (.ref ns)])) _
    refine XS.ldiv X3.here hx rfl (hb hby dx_prog_16_method_2_code_15) rfl hz ?_
    show Steps p.tables e below (T3.setTop (mkF m 16 #[.val (.long q1), .second, .val (.long q2), .second] [(.long (q1 / q2)), (.ref ns)])) _
    refine st4.trans ?_
    show Steps p.tables e below (T4.setTop (mkF m 19 #[.val (.long q1), .second, .val (.long q2), .second] [(.long ((q1 / q2) / ((1000000 : Int32).toInt64)))])) _
    exact retOut X4 hx Bd.returns rfl (Or.inr (Or.inl ⟨rfl, rfl, _, rfl⟩)) (hb hby dx_prog_16_method_2_code_19) hr
  · show Qavg Z ns q1 q2 h0 n0 _ T4.heap _
    rw [eq4]
    exact ⟨(by rw [own_avg1 hz]), N4, rfl⟩
set_option maxRecDepth 65536 in
theorem rmavg (l : Launch) (Z : State) (a0 : Array Value) (ns : Addr) (hG : Glob Z a0 ns) (ws : List Jvm.Cond) (q1 : Int64) (q2 : Int64) (h0 : Heap) (n0 : Nat) (Z0 : n0 ≤ h0.size) (X00 : Old Z n0 h0) :
    MetFree l y1 (head1 (Jvm.Cond.code y1 prog_16_method_2_code 4 (some .long) :: ws) ({ frames := 1, cells := 0, slots := 0, locals := 18 } : Room)) (fun a U => a = #[(.long q1), (.long q2)] ∧ Z.Warmed39 U.vm ∧ U.heap = h0) (fun _ _ _ _ _ => True) (fun _ U o U' => ∃ v L, o = .returned v ∧ Qavg Z ns q1 q2 h0 n0 v U'.heap L ∧ FrameEnd U o U' L ({ frames := 1, cells := 0, slots := 0, locals := 18 } : Room).cells ({ frames := 1, cells := 0, slots := 0, locals := 18 } : Room).slots) := by
  by_cases h : q2 = (0 : Int64)
  · exact rmavg_z l Z a0 ns hG ws q1 q2 h0 n0 Z0 X00 h
  · exact rmavg_n l Z a0 ns hG ws q1 q2 h0 n0 Z0 X00 h
theorem dx_prog_16_method_1_code_0 : decode prog_16_method_1_code 0 = .ok (.aload_n 0, 1) := by decide +kernel
theorem dx_prog_16_method_1_code_1 : decode prog_16_method_1_code 1 = .ok (.invokespecial 1, 3) := by decide +kernel
theorem dx_prog_16_method_1_code_4 : decode prog_16_method_1_code 4 = .ok (.aload_n 0, 1) := by decide +kernel
theorem dx_prog_16_method_1_code_5 : decode prog_16_method_1_code 5 = .ok (.aload_n 1, 1) := by decide +kernel
theorem dx_prog_16_method_1_code_6 : decode prog_16_method_1_code 6 = .ok (.getfield 7, 3) := by decide +kernel
theorem dx_prog_16_method_1_code_9 : decode prog_16_method_1_code 9 = .ok (.putfield 13, 3) := by decide +kernel
theorem dx_prog_16_method_1_code_12 : decode prog_16_method_1_code 12 = .ok (.aload_n 0, 1) := by decide +kernel
theorem dx_prog_16_method_1_code_13 : decode prog_16_method_1_code 13 = .ok (.aload_n 1, 1) := by decide +kernel
theorem dx_prog_16_method_1_code_14 : decode prog_16_method_1_code 14 = .ok (.getfield 16, 3) := by decide +kernel
theorem dx_prog_16_method_1_code_17 : decode prog_16_method_1_code 17 = .ok (.aload_n 1, 1) := by decide +kernel
theorem dx_prog_16_method_1_code_18 : decode prog_16_method_1_code 18 = .ok (.getfield 7, 3) := by decide +kernel
theorem dx_prog_16_method_1_code_21 : decode prog_16_method_1_code 21 = .ok (.invokestatic 19, 3) := by decide +kernel
theorem pd__JJ_J : parseMethodDescriptor "(JJ)J" = some ⟨[.long, .long], some .long⟩ := by decide +kernel
theorem dx_prog_16_method_1_code_24 : decode prog_16_method_1_code 24 = .ok (.putfield 23, 3) := by decide +kernel
theorem dx_prog_16_method_1_code_27 : decode prog_16_method_1_code 27 = .ok (.aload_n 0, 1) := by decide +kernel
theorem dx_prog_16_method_1_code_28 : decode prog_16_method_1_code 28 = .ok (.aload_n 1, 1) := by decide +kernel
theorem dx_prog_16_method_1_code_29 : decode prog_16_method_1_code 29 = .ok (.getfield 26, 3) := by decide +kernel
theorem dx_prog_16_method_1_code_32 : decode prog_16_method_1_code 32 = .ok (.putfield 29, 3) := by decide +kernel
theorem dx_prog_16_method_1_code_35 : decode prog_16_method_1_code 35 = .ok (.aload_n 0, 1) := by decide +kernel
theorem dx_prog_16_method_1_code_36 : decode prog_16_method_1_code 36 = .ok (.aload_n 1, 1) := by decide +kernel
theorem dx_prog_16_method_1_code_37 : decode prog_16_method_1_code 37 = .ok (.getfield 30, 3) := by decide +kernel
theorem dx_prog_16_method_1_code_40 : decode prog_16_method_1_code 40 = .ok (.aload_n 1, 1) := by decide +kernel
theorem dx_prog_16_method_1_code_41 : decode prog_16_method_1_code 41 = .ok (.getfield 26, 3) := by decide +kernel
theorem dx_prog_16_method_1_code_44 : decode prog_16_method_1_code 44 = .ok (.invokestatic 19, 3) := by decide +kernel
theorem dx_prog_16_method_1_code_47 : decode prog_16_method_1_code 47 = .ok (.putfield 33, 3) := by decide +kernel
theorem dx_prog_16_method_1_code_50 : decode prog_16_method_1_code 50 = .ok (.aload_n 0, 1) := by decide +kernel
theorem dx_prog_16_method_1_code_51 : decode prog_16_method_1_code 51 = .ok (.aload_n 1, 1) := by decide +kernel
theorem dx_prog_16_method_1_code_52 : decode prog_16_method_1_code 52 = .ok (.getfield 36, 3) := by decide +kernel
theorem dx_prog_16_method_1_code_55 : decode prog_16_method_1_code 55 = .ok (.putfield 39, 3) := by decide +kernel
theorem dx_prog_16_method_1_code_58 : decode prog_16_method_1_code 58 = .ok (.aload_n 0, 1) := by decide +kernel
theorem dx_prog_16_method_1_code_59 : decode prog_16_method_1_code 59 = .ok (.aload_n 1, 1) := by decide +kernel
theorem dx_prog_16_method_1_code_60 : decode prog_16_method_1_code 60 = .ok (.getfield 40, 3) := by decide +kernel
theorem dx_prog_16_method_1_code_63 : decode prog_16_method_1_code 63 = .ok (.putfield 43, 3) := by decide +kernel
theorem dx_prog_16_method_1_code_66 : decode prog_16_method_1_code 66 = .ok (.aload_n 0, 1) := by decide +kernel
theorem dx_prog_16_method_1_code_67 : decode prog_16_method_1_code 67 = .ok (.aload_n 1, 1) := by decide +kernel
theorem dx_prog_16_method_1_code_68 : decode prog_16_method_1_code 68 = .ok (.getfield 46, 3) := by decide +kernel
theorem dx_prog_16_method_1_code_71 : decode prog_16_method_1_code 71 = .ok (.aload_n 1, 1) := by decide +kernel
theorem dx_prog_16_method_1_code_72 : decode prog_16_method_1_code 72 = .ok (.getfield 40, 3) := by decide +kernel
theorem dx_prog_16_method_1_code_75 : decode prog_16_method_1_code 75 = .ok (.invokestatic 19, 3) := by decide +kernel
theorem dx_prog_16_method_1_code_78 : decode prog_16_method_1_code 78 = .ok (.putfield 49, 3) := by decide +kernel
theorem dx_prog_16_method_1_code_81 : decode prog_16_method_1_code 81 = .ok (.aload_n 0, 1) := by decide +kernel
theorem dx_prog_16_method_1_code_82 : decode prog_16_method_1_code 82 = .ok (.aload_n 1, 1) := by decide +kernel
theorem dx_prog_16_method_1_code_83 : decode prog_16_method_1_code 83 = .ok (.getfield 52, 3) := by decide +kernel
theorem dx_prog_16_method_1_code_86 : decode prog_16_method_1_code 86 = .ok (.aload_n 1, 1) := by decide +kernel
theorem dx_prog_16_method_1_code_87 : decode prog_16_method_1_code 87 = .ok (.getfield 55, 3) := by decide +kernel
theorem dx_prog_16_method_1_code_90 : decode prog_16_method_1_code 90 = .ok (.invokestatic 19, 3) := by decide +kernel
theorem dx_prog_16_method_1_code_93 : decode prog_16_method_1_code 93 = .ok (.putfield 58, 3) := by decide +kernel
theorem dx_prog_16_method_1_code_96 : decode prog_16_method_1_code 96 = .ok (.aload_n 0, 1) := by decide +kernel
theorem dx_prog_16_method_1_code_97 : decode prog_16_method_1_code 97 = .ok (.iload_n 2, 1) := by decide +kernel
theorem dx_prog_16_method_1_code_98 : decode prog_16_method_1_code 98 = .ok (.putfield 61, 3) := by decide +kernel
theorem dx_prog_16_method_1_code_101 : decode prog_16_method_1_code 101 = .ok (.aload_n 0, 1) := by decide +kernel
theorem dx_prog_16_method_1_code_102 : decode prog_16_method_1_code 102 = .ok (.iload_n 3, 1) := by decide +kernel
theorem dx_prog_16_method_1_code_103 : decode prog_16_method_1_code 103 = .ok (.putfield 65, 3) := by decide +kernel
theorem dx_prog_16_method_1_code_106 : decode prog_16_method_1_code 106 = .ok (.aload_n 0, 1) := by decide +kernel
theorem dx_prog_16_method_1_code_107 : decode prog_16_method_1_code 107 = .ok (.iload 4, 2) := by decide +kernel
theorem dx_prog_16_method_1_code_109 : decode prog_16_method_1_code 109 = .ok (.putfield 68, 3) := by decide +kernel
theorem dx_prog_16_method_1_code_112 : decode prog_16_method_1_code 112 = .ok (.aload_n 0, 1) := by decide +kernel
theorem dx_prog_16_method_1_code_113 : decode prog_16_method_1_code 113 = .ok (.aload_n 1, 1) := by decide +kernel
theorem dx_prog_16_method_1_code_114 : decode prog_16_method_1_code 114 = .ok (.getfield 71, 3) := by decide +kernel
theorem dx_prog_16_method_1_code_117 : decode prog_16_method_1_code 117 = .ok (.putfield 74, 3) := by decide +kernel
theorem dx_prog_16_method_1_code_120 : decode prog_16_method_1_code 120 = .ok (.return_, 1) := by decide +kernel
def Qpsi (Z : State) (ns : Addr) (a1 : Addr) (a2 : Addr) (p1 : Int32) (p2 : Int32) (p3 : Int32) (c0 : Int64) (c1 : Int64) (c2 : Int64) (c3 : Int64) (c4 : Int64) (c5 : Int64) (c6 : Int64) (c7 : Int64) (c8 : Int64) (c9 : Int64) (h0 : Heap) (n0 : Nat) (v : Option Value) (h : Heap) (L : List Loc) : Prop := v = none ∧ Fr n0 L ∧ Keep h0 h [a1] ∧ Exa Z h a1 "com/example/cistern/cistern/PoolState" ∧ Fld Z h a1 "com/example/cistern/cistern/PoolState" "requestCount" "J" (.long c0) ∧ Fld Z h a1 "com/example/cistern/cistern/PoolState" "averageRequestTime" "J" (.long (own_avg c1 c0)) ∧ Fld Z h a1 "com/example/cistern/cistern/PoolState" "hadToWaitCount" "J" (.long c2) ∧ Fld Z h a1 "com/example/cistern/cistern/PoolState" "averageWaitTime" "J" (.long (own_avg c3 c2)) ∧ Fld Z h a1 "com/example/cistern/cistern/PoolState" "badConnectionCount" "J" (.long c4) ∧ Fld Z h a1 "com/example/cistern/cistern/PoolState" "claimedOverdueConnectionCount" "J" (.long c5) ∧ Fld Z h a1 "com/example/cistern/cistern/PoolState" "averageOverdueCheckoutTime" "J" (.long (own_avg c6 c5)) ∧ Fld Z h a1 "com/example/cistern/cistern/PoolState" "averageCheckoutTime" "J" (.long (own_avg c8 c7)) ∧ Fld Z h a1 "com/example/cistern/cistern/PoolState" "idleConnectionCount" "I" (.int p1) ∧ Fld Z h a1 "com/example/cistern/cistern/PoolState" "activeConnectionCount" "I" (.int p2) ∧ Fld Z h a1 "com/example/cistern/cistern/PoolState" "waitingCount" "I" (.int p3) ∧ Fld Z h a1 "com/example/cistern/cistern/PoolState" "connectionsOpened" "J" (.long c9)
theorem ef_prog_16_method_1_code_RRIII (m : MethodId) (x0 : Addr) (x1 : Addr) (x2 : Int32) (x3 : Int32) (x4 : Int32) : entryFrame m #[(.ref x0), (.ref x1), (.int x2), (.int x3), (.int x4)] 5 = mkF m 0 #[.val (.ref x0), .val (.ref x1), .val (.int x2), .val (.int x3), .val (.int x4)] [] := by first | (simp [entryFrame, mkF, argsToLocals, Value.category]; done) | rfl
abbrev y2 : MethodName := ⟨"com/example/cistern/cistern/PoolState", "<init>", "(Lcom/example/cistern/cistern/PoolState$Counters;III)V"⟩
set_option maxRecDepth 65536 in
set_option maxHeartbeats 40000000 in
theorem rmpsi (l : Launch) (Z : State) (a0 : Array Value) (ns : Addr) (hG : Glob Z a0 ns) (ws : List Jvm.Cond) (a1 : Addr) (a2 : Addr) (p1 : Int32) (p2 : Int32) (p3 : Int32) (c0 : Int64) (c1 : Int64) (c2 : Int64) (c3 : Int64) (c4 : Int64) (c5 : Int64) (c6 : Int64) (c7 : Int64) (c8 : Int64) (c9 : Int64) (h0 : Heap) (n0 : Nat) (Z0 : n0 ≤ h0.size) (X00 : Old Z n0 h0) (E_a1 : Exa Z h0 a1 "com/example/cistern/cistern/PoolState") (F_requestCount_a1 : Fld Z h0 a1 "com/example/cistern/cistern/PoolState" "requestCount" "J" (.long (0 : Int64))) (F_averageRequestTime_a1 : Fld Z h0 a1 "com/example/cistern/cistern/PoolState" "averageRequestTime" "J" (.long (0 : Int64))) (F_hadToWaitCount_a1 : Fld Z h0 a1 "com/example/cistern/cistern/PoolState" "hadToWaitCount" "J" (.long (0 : Int64))) (F_averageWaitTime_a1 : Fld Z h0 a1 "com/example/cistern/cistern/PoolState" "averageWaitTime" "J" (.long (0 : Int64))) (F_badConnectionCount_a1 : Fld Z h0 a1 "com/example/cistern/cistern/PoolState" "badConnectionCount" "J" (.long (0 : Int64))) (F_claimedOverdueConnectionCount_a1 : Fld Z h0 a1 "com/example/cistern/cistern/PoolState" "claimedOverdueConnectionCount" "J" (.long (0 : Int64))) (F_averageOverdueCheckoutTime_a1 : Fld Z h0 a1 "com/example/cistern/cistern/PoolState" "averageOverdueCheckoutTime" "J" (.long (0 : Int64))) (F_averageCheckoutTime_a1 : Fld Z h0 a1 "com/example/cistern/cistern/PoolState" "averageCheckoutTime" "J" (.long (0 : Int64))) (F_idleConnectionCount_a1 : Fld Z h0 a1 "com/example/cistern/cistern/PoolState" "idleConnectionCount" "I" (.int (0 : Int32))) (F_activeConnectionCount_a1 : Fld Z h0 a1 "com/example/cistern/cistern/PoolState" "activeConnectionCount" "I" (.int (0 : Int32))) (F_waitingCount_a1 : Fld Z h0 a1 "com/example/cistern/cistern/PoolState" "waitingCount" "I" (.int (0 : Int32))) (F_connectionsOpened_a1 : Fld Z h0 a1 "com/example/cistern/cistern/PoolState" "connectionsOpened" "J" (.long (0 : Int64))) (F_requestCount_a2 : Fld Z h0 a2 "com/example/cistern/cistern/PoolState$Counters" "requestCount" "J" (.long c0)) (F_requestNanos_a2 : Fld Z h0 a2 "com/example/cistern/cistern/PoolState$Counters" "requestNanos" "J" (.long c1)) (F_hadToWaitCount_a2 : Fld Z h0 a2 "com/example/cistern/cistern/PoolState$Counters" "hadToWaitCount" "J" (.long c2)) (F_waitNanos_a2 : Fld Z h0 a2 "com/example/cistern/cistern/PoolState$Counters" "waitNanos" "J" (.long c3)) (F_badConnectionCount_a2 : Fld Z h0 a2 "com/example/cistern/cistern/PoolState$Counters" "badConnectionCount" "J" (.long c4)) (F_claimedOverdueCount_a2 : Fld Z h0 a2 "com/example/cistern/cistern/PoolState$Counters" "claimedOverdueCount" "J" (.long c5)) (F_overdueCheckoutNanos_a2 : Fld Z h0 a2 "com/example/cistern/cistern/PoolState$Counters" "overdueCheckoutNanos" "J" (.long c6)) (F_checkoutCount_a2 : Fld Z h0 a2 "com/example/cistern/cistern/PoolState$Counters" "checkoutCount" "J" (.long c7)) (F_checkoutNanos_a2 : Fld Z h0 a2 "com/example/cistern/cistern/PoolState$Counters" "checkoutNanos" "J" (.long c8)) (F_connectionsOpened_a2 : Fld Z h0 a2 "com/example/cistern/cistern/PoolState$Counters" "connectionsOpened" "J" (.long c9)) (ne_a2_a1 : a2 ≠ a1) (g_a1 : n0 ≤ a1) :
    MetFree l y2 (head1 (Jvm.Cond.code y2 prog_16_method_1_code 5 none :: ws) ({ frames := 2, cells := 0, slots := 0, locals := 34 } : Room)) (fun a U => a = #[(.ref a1), (.ref a2), (.int p1), (.int p2), (.int p3)] ∧ Z.Warmed39 U.vm ∧ U.heap = h0) (fun _ _ _ _ _ => True) (fun _ U o U' => ∃ v L, o = .returned v ∧ Qpsi Z ns a1 a2 p1 p2 p3 c0 c1 c2 c3 c4 c5 c6 c7 c8 c9 h0 n0 v U'.heap L ∧ FrameEnd U o U' L ({ frames := 2, cells := 0, slots := 0, locals := 34 } : Room).cells ({ frames := 2, cells := 0, slots := 0, locals := 34 } : Room).slots) := by
  obtain ⟨hw, O_ns, O_ens, O_scale, O_ratio⟩ := id hG
  have W : ∀ (i : Nat) {d : Jvm.Cond}, tables_1[i]? = some d → d.before a0 Z = true := fun i d h => hw d (List.mem_of_getElem? h)
  refine MetFree.of_bodySF (plainFor_of_name pn_com_example_cistern_cistern_PoolState) hisR ?_
  intro p e s m args below meth c s₁ Bd hml0 hP hK
  obtain ⟨rfl, hZ, hh⟩ := hP
  have hx := Bd.exec
  have hby := Bd.bytes
  have hml : c.maxLocals = 5 := hml0
  have hown : s.vm.findClass "com/example/cistern/cistern/PoolState" = some m.cls := findClass_of_methodNamed Bd.named
  have hnm := (name_of_methodNamed Bd.named Bd.method).1
  have X0 : Stand p l e ({ frames := 2, cells := 0, slots := 0, locals := 34 } : Room) s m #[(.ref a1), (.ref a2), (.int p1), (.int p2), (.int p3)] below meth c s₁ [] 0 0 := Stand.of_body Bd
  have e0 : s₁.heap = h0 := by rw [← hh, Bd.state]; rfl
  have N0 := Fr.nil n0
  have pre0 : ∀ t, Steps p.tables e below (s₁.setTop (mkF m 0 #[.val (.ref a1), .val (.ref a2), .val (.int p1), .val (.int p2), .val (.int p3)] [])) t → Steps p.tables e below (s₁.setTop (entryFrame m #[(.ref a1), (.ref a2), (.int p1), (.int p2), (.int p3)] 5)) t := fun t kk_ => castTop (ef_prog_16_method_1_code_RRIII m a1 a2 p1 p2 p3) kk_
  obtain ⟨T5, X5, e5, st5⟩ := initO X0 hx hZ hown (W 20 rfl) (W 7 rfl) (W 8 rfl) e0 (g := (mkF m 1 #[.val (.ref a1), .val (.ref a2), .val (.int p1), .val (.int p2), .val (.int p3)] [(.ref a1)])) rfl (by rw [hml]; rfl) rfl (hb hby dx_prog_16_method_1_code_1) (by decide) (W := 0) (by show 2 * 0 + _ ≤ _; exact Nat.le_of_eq rfl) (by decide)
  -- pc 6
  obtain ⟨T6, h6, X6, e6, W6, st6⟩ := putF X5 hx hZ hown (host := "") (Or.inl (W 23 rfl)) Via.refl e5 F_requestCount_a1 E_a1 (Or.inr ⟨(W 24 rfl), rfl, hnm⟩) (W 15 rfl) (ty := .long) (by decide) rfl rfl (g := (mkF m 9 #[.val (.ref a1), .val (.ref a2), .val (.int p1), .val (.int p2), .val (.int p3)] [(.long c0), (.ref a1)])) rfl rfl (hb hby dx_prog_16_method_1_code_9)
  have Fw6 := F_requestCount_a1.same W6
  have Z7 : n0 ≤ h6.size := Nat.le_trans Z0 (Keep.of_wr W6).1
  have K0_7 : Keep h0 h6 [a1] := (Keep.refl h0 [a1]).wr W6 (Or.inl (List.mem_of_getElem? (i := 0) rfl))
  have O7 : Old Z n0 h6 := X00.wr W6 g_a1
  have N6 := Fr.snoc X6 N0 g_a1
  have f8 := (F_requestNanos_a2.other W6 (Or.inl ne_a2_a1))
  -- pc 14
  have f9 := (F_requestCount_a2.other W6 (Or.inl ne_a2_a1))
  -- pc 18
  -- pc 21: com/example/cistern/cistern/PoolState.averageMillis
  obtain ⟨_, _, ⟨T10, L10, k10, n10⟩, -, X10, ⟨Lc10, hQ10, l10, y10, z10⟩, st10⟩ := Jvm.LawKit.callS X6 hx (y := y1) hown (mvT hZ (W 27 rfl)) (mvT hZ (W 28 rfl)) (mvT hZ (W 16 rfl)) (mvT hZ (W 29 rfl)) (by decide) (backOf (W := 1) (rmavg l Z a0 ns hG [] c1 c0 h6 n0 Z7 O7) hZ (W 29 rfl) (W 16 rfl) (by decide) (by decide)) (g := (mkF m 21 #[.val (.ref a1), .val (.ref a2), .val (.int p1), .val (.int p2), .val (.int p3)] [(.long c0), (.long c1), (.ref a1)])) rfl (by rw [hml]; rfl) (argsL := [(.long c1), (.long c0)]) (rest := [(.ref a1)]) (lenOf pd__JJ_J rfl) rfl (by show 2 * 0 + _ ≤ _; exact Nat.le_of_eq rfl) (hb hby dx_prog_16_method_1_code_21) (fun _ _ => ⟨rfl, e6, (by decide : 0 + 0 ≤ _), (by decide : 0 + 0 ≤ _)⟩)
  dsimp only [Pt.U, Pt.locs, Pt.cells, Pt.slots] at X10 l10 y10 z10 st10 hQ10
  subst l10 y10 z10
  obtain ⟨rfl, N10q, eq10⟩ := hQ10
  have N10 := Fr.app N6 N10q
  have f11 := (E_a1.wr W6)
  have f12 := (F_averageRequestTime_a1.other W6 (Or.inr (slot_ne (Or.inr (W 31 rfl)) (Or.inr (W 24 rfl)) (by decide) (t := .long) (t' := .long) (by decide) (by decide))))
  obtain ⟨T13, h13, X13, e13, W13, st13⟩ := putF X10 hx hZ hown (host := "") (Or.inl (W 30 rfl)) Via.refl eq10 f12 f11 (Or.inr ⟨(W 31 rfl), rfl, hnm⟩) (W 15 rfl) (ty := .long) (by decide) rfl rfl (g := (mkF m 24 #[.val (.ref a1), .val (.ref a2), .val (.int p1), .val (.int p2), .val (.int p3)] [(.long (own_avg c1 c0)), (.ref a1)])) rfl rfl (hb hby dx_prog_16_method_1_code_24)
  have Fw13 := f12.same W13
  have Z14 : n0 ≤ h13.size := Nat.le_trans Z7 (Keep.of_wr W13).1
  have K0_14 : Keep h0 h13 [a1] := K0_7.wr W13 (Or.inl (List.mem_of_getElem? (i := 0) rfl))
  have O14 : Old Z n0 h13 := O7.wr W13 g_a1
  have N13 := Fr.snoc X13 N10 g_a1
  have f15 := ((F_hadToWaitCount_a2.other W6 (Or.inl ne_a2_a1)).other W13 (Or.inl ne_a2_a1))
  -- pc 29
  have f16 := (f11.wr W13)
  have f17 := ((F_hadToWaitCount_a1.other W6 (Or.inr (slot_ne (Or.inr (W 35 rfl)) (Or.inr (W 24 rfl)) (by decide) (t := .long) (t' := .long) (by decide) (by decide)))).other W13 (Or.inr (slot_ne (Or.inr (W 35 rfl)) (Or.inr (W 31 rfl)) (by decide) (t := .long) (t' := .long) (by decide) (by decide))))
  obtain ⟨T18, h18, X18, e18, W18, st18⟩ := putF X13 hx hZ hown (host := "") (Or.inl (W 34 rfl)) Via.refl e13 f17 f16 (Or.inr ⟨(W 35 rfl), rfl, hnm⟩) (W 15 rfl) (ty := .long) (by decide) rfl rfl (g := (mkF m 32 #[.val (.ref a1), .val (.ref a2), .val (.int p1), .val (.int p2), .val (.int p3)] [(.long c2), (.ref a1)])) rfl rfl (hb hby dx_prog_16_method_1_code_32)
  have Fw18 := f17.same W18
  have Z19 : n0 ≤ h18.size := Nat.le_trans Z14 (Keep.of_wr W18).1
  have K0_19 : Keep h0 h18 [a1] := K0_14.wr W18 (Or.inl (List.mem_of_getElem? (i := 0) rfl))
  have O19 : Old Z n0 h18 := O14.wr W18 g_a1
  have N18 := Fr.snoc X18 N13 g_a1
  have f20 := (((F_waitNanos_a2.other W6 (Or.inl ne_a2_a1)).other W13 (Or.inl ne_a2_a1)).other W18 (Or.inl ne_a2_a1))
  -- pc 37
  have f21 := (f15.other W18 (Or.inl ne_a2_a1))
  -- pc 41
  -- pc 44: com/example/cistern/cistern/PoolState.averageMillis
  obtain ⟨_, _, ⟨T22, L22, k22, n22⟩, -, X22, ⟨Lc22, hQ22, l22, y22, z22⟩, st22⟩ := Jvm.LawKit.callS X18 hx (y := y1) hown (mvT hZ (W 27 rfl)) (mvT hZ (W 28 rfl)) (mvT hZ (W 16 rfl)) (mvT hZ (W 29 rfl)) (by decide) (backOf (W := 1) (rmavg l Z a0 ns hG [] c3 c2 h18 n0 Z19 O19) hZ (W 29 rfl) (W 16 rfl) (by decide) (by decide)) (g := (mkF m 44 #[.val (.ref a1), .val (.ref a2), .val (.int p1), .val (.int p2), .val (.int p3)] [(.long c2), (.long c3), (.ref a1)])) rfl (by rw [hml]; rfl) (argsL := [(.long c3), (.long c2)]) (rest := [(.ref a1)]) (lenOf pd__JJ_J rfl) rfl (by show 2 * 0 + _ ≤ _; exact Nat.le_of_eq rfl) (hb hby dx_prog_16_method_1_code_44) (fun _ _ => ⟨rfl, e18, (by decide : 0 + 0 ≤ _), (by decide : 0 + 0 ≤ _)⟩)
  dsimp only [Pt.U, Pt.locs, Pt.cells, Pt.slots] at X22 l22 y22 z22 st22 hQ22
  subst l22 y22 z22
  obtain ⟨rfl, N22q, eq22⟩ := hQ22
  have N22 := Fr.app N18 N22q
  have f23 := (f16.wr W18)
  have f24 := (((F_averageWaitTime_a1.other W6 (Or.inr (slot_ne (Or.inr (W 39 rfl)) (Or.inr (W 24 rfl)) (by decide) (t := .long) (t' := .long) (by decide) (by decide)))).other W13 (Or.inr (slot_ne (Or.inr (W 39 rfl)) (Or.inr (W 31 rfl)) (by decide) (t := .long) (t' := .long) (by decide) (by decide)))).other W18 (Or.inr (slot_ne (Or.inr (W 39 rfl)) (Or.inr (W 35 rfl)) (by decide) (t := .long) (t' := .long) (by decide) (by decide))))
  obtain ⟨T25, h25, X25, e25, W25, st25⟩ := putF X22 hx hZ hown (host := "") (Or.inl (W 38 rfl)) Via.refl eq22 f24 f23 (Or.inr ⟨(W 39 rfl), rfl, hnm⟩) (W 15 rfl) (ty := .long) (by decide) rfl rfl (g := (mkF m 47 #[.val (.ref a1), .val (.ref a2), .val (.int p1), .val (.int p2), .val (.int p3)] [(.long (own_avg c3 c2)), (.ref a1)])) rfl rfl (hb hby dx_prog_16_method_1_code_47)
  have Fw25 := f24.same W25
  have Z26 : n0 ≤ h25.size := Nat.le_trans Z19 (Keep.of_wr W25).1
  have K0_26 : Keep h0 h25 [a1] := K0_19.wr W25 (Or.inl (List.mem_of_getElem? (i := 0) rfl))
  have O26 : Old Z n0 h25 := O19.wr W25 g_a1
  have N25 := Fr.snoc X25 N22 g_a1
  have f27 := ((((F_badConnectionCount_a2.other W6 (Or.inl ne_a2_a1)).other W13 (Or.inl ne_a2_a1)).other W18 (Or.inl ne_a2_a1)).other W25 (Or.inl ne_a2_a1))
  -- pc 52
  have f28 := (f23.wr W25)
  have f29 := ((((F_badConnectionCount_a1.other W6 (Or.inr (slot_ne (Or.inr (W 43 rfl)) (Or.inr (W 24 rfl)) (by decide) (t := .long) (t' := .long) (by decide) (by decide)))).other W13 (Or.inr (slot_ne (Or.inr (W 43 rfl)) (Or.inr (W 31 rfl)) (by decide) (t := .long) (t' := .long) (by decide) (by decide)))).other W18 (Or.inr (slot_ne (Or.inr (W 43 rfl)) (Or.inr (W 35 rfl)) (by decide) (t := .long) (t' := .long) (by decide) (by decide)))).other W25 (Or.inr (slot_ne (Or.inr (W 43 rfl)) (Or.inr (W 39 rfl)) (by decide) (t := .long) (t' := .long) (by decide) (by decide))))
  obtain ⟨T30, h30, X30, e30, W30, st30⟩ := putF X25 hx hZ hown (host := "") (Or.inl (W 42 rfl)) Via.refl e25 f29 f28 (Or.inr ⟨(W 43 rfl), rfl, hnm⟩) (W 15 rfl) (ty := .long) (by decide) rfl rfl (g := (mkF m 55 #[.val (.ref a1), .val (.ref a2), .val (.int p1), .val (.int p2), .val (.int p3)] [(.long c4), (.ref a1)])) rfl rfl (hb hby dx_prog_16_method_1_code_55)
  have Fw30 := f29.same W30
  have Z31 : n0 ≤ h30.size := Nat.le_trans Z26 (Keep.of_wr W30).1
  have K0_31 : Keep h0 h30 [a1] := K0_26.wr W30 (Or.inl (List.mem_of_getElem? (i := 0) rfl))
  have O31 : Old Z n0 h30 := O26.wr W30 g_a1
  have N30 := Fr.snoc X30 N25 g_a1
  have f32 := (((((F_claimedOverdueCount_a2.other W6 (Or.inl ne_a2_a1)).other W13 (Or.inl ne_a2_a1)).other W18 (Or.inl ne_a2_a1)).other W25 (Or.inl ne_a2_a1)).other W30 (Or.inl ne_a2_a1))
  -- pc 60
  have f33 := (f28.wr W30)
  have f34 := (((((F_claimedOverdueConnectionCount_a1.other W6 (Or.inr (slot_ne (Or.inr (W 47 rfl)) (Or.inr (W 24 rfl)) (by decide) (t := .long) (t' := .long) (by decide) (by decide)))).other W13 (Or.inr (slot_ne (Or.inr (W 47 rfl)) (Or.inr (W 31 rfl)) (by decide) (t := .long) (t' := .long) (by decide) (by decide)))).other W18 (Or.inr (slot_ne (Or.inr (W 47 rfl)) (Or.inr (W 35 rfl)) (by decide) (t := .long) (t' := .long) (by decide) (by decide)))).other W25 (Or.inr (slot_ne (Or.inr (W 47 rfl)) (Or.inr (W 39 rfl)) (by decide) (t := .long) (t' := .long) (by decide) (by decide)))).other W30 (Or.inr (slot_ne (Or.inr (W 47 rfl)) (Or.inr (W 43 rfl)) (by decide) (t := .long) (t' := .long) (by decide) (by decide))))
  obtain ⟨T35, h35, X35, e35, W35, st35⟩ := putF X30 hx hZ hown (host := "") (Or.inl (W 46 rfl)) Via.refl e30 f34 f33 (Or.inr ⟨(W 47 rfl), rfl, hnm⟩) (W 15 rfl) (ty := .long) (by decide) rfl rfl (g := (mkF m 63 #[.val (.ref a1), .val (.ref a2), .val (.int p1), .val (.int p2), .val (.int p3)] [(.long c5), (.ref a1)])) rfl rfl (hb hby dx_prog_16_method_1_code_63)
  have Fw35 := f34.same W35
  have Z36 : n0 ≤ h35.size := Nat.le_trans Z31 (Keep.of_wr W35).1
  have K0_36 : Keep h0 h35 [a1] := K0_31.wr W35 (Or.inl (List.mem_of_getElem? (i := 0) rfl))
  have O36 : Old Z n0 h35 := O31.wr W35 g_a1
  have N35 := Fr.snoc X35 N30 g_a1
  have f37 := ((((((F_overdueCheckoutNanos_a2.other W6 (Or.inl ne_a2_a1)).other W13 (Or.inl ne_a2_a1)).other W18 (Or.inl ne_a2_a1)).other W25 (Or.inl ne_a2_a1)).other W30 (Or.inl ne_a2_a1)).other W35 (Or.inl ne_a2_a1))
  -- pc 68
  have f38 := (f32.other W35 (Or.inl ne_a2_a1))
  -- pc 72
  -- pc 75: com/example/cistern/cistern/PoolState.averageMillis
  obtain ⟨_, _, ⟨T39, L39, k39, n39⟩, -, X39, ⟨Lc39, hQ39, l39, y39, z39⟩, st39⟩ := Jvm.LawKit.callS X35 hx (y := y1) hown (mvT hZ (W 27 rfl)) (mvT hZ (W 28 rfl)) (mvT hZ (W 16 rfl)) (mvT hZ (W 29 rfl)) (by decide) (backOf (W := 1) (rmavg l Z a0 ns hG [] c6 c5 h35 n0 Z36 O36) hZ (W 29 rfl) (W 16 rfl) (by decide) (by decide)) (g := (mkF m 75 #[.val (.ref a1), .val (.ref a2), .val (.int p1), .val (.int p2), .val (.int p3)] [(.long c5), (.long c6), (.ref a1)])) rfl (by rw [hml]; rfl) (argsL := [(.long c6), (.long c5)]) (rest := [(.ref a1)]) (lenOf pd__JJ_J rfl) rfl (by show 2 * 0 + _ ≤ _; exact Nat.le_of_eq rfl) (hb hby dx_prog_16_method_1_code_75) (fun _ _ => ⟨rfl, e35, (by decide : 0 + 0 ≤ _), (by decide : 0 + 0 ≤ _)⟩)
  dsimp only [Pt.U, Pt.locs, Pt.cells, Pt.slots] at X39 l39 y39 z39 st39 hQ39
  subst l39 y39 z39
  obtain ⟨rfl, N39q, eq39⟩ := hQ39
  have N39 := Fr.app N35 N39q
  have f40 := (f33.wr W35)
  have f41 := ((((((F_averageOverdueCheckoutTime_a1.other W6 (Or.inr (slot_ne (Or.inr (W 51 rfl)) (Or.inr (W 24 rfl)) (by decide) (t := .long) (t' := .long) (by decide) (by decide)))).other W13 (Or.inr (slot_ne (Or.inr (W 51 rfl)) (Or.inr (W 31 rfl)) (by decide) (t := .long) (t' := .long) (by decide) (by decide)))).other W18 (Or.inr (slot_ne (Or.inr (W 51 rfl)) (Or.inr (W 35 rfl)) (by decide) (t := .long) (t' := .long) (by decide) (by decide)))).other W25 (Or.inr (slot_ne (Or.inr (W 51 rfl)) (Or.inr (W 39 rfl)) (by decide) (t := .long) (t' := .long) (by decide) (by decide)))).other W30 (Or.inr (slot_ne (Or.inr (W 51 rfl)) (Or.inr (W 43 rfl)) (by decide) (t := .long) (t' := .long) (by decide) (by decide)))).other W35 (Or.inr (slot_ne (Or.inr (W 51 rfl)) (Or.inr (W 47 rfl)) (by decide) (t := .long) (t' := .long) (by decide) (by decide))))
  obtain ⟨T42, h42, X42, e42, W42, st42⟩ := putF X39 hx hZ hown (host := "") (Or.inl (W 50 rfl)) Via.refl eq39 f41 f40 (Or.inr ⟨(W 51 rfl), rfl, hnm⟩) (W 15 rfl) (ty := .long) (by decide) rfl rfl (g := (mkF m 78 #[.val (.ref a1), .val (.ref a2), .val (.int p1), .val (.int p2), .val (.int p3)] [(.long (own_avg c6 c5)), (.ref a1)])) rfl rfl (hb hby dx_prog_16_method_1_code_78)
  have Fw42 := f41.same W42
  have Z43 : n0 ≤ h42.size := Nat.le_trans Z36 (Keep.of_wr W42).1
  have K0_43 : Keep h0 h42 [a1] := K0_36.wr W42 (Or.inl (List.mem_of_getElem? (i := 0) rfl))
  have O43 : Old Z n0 h42 := O36.wr W42 g_a1
  have N42 := Fr.snoc X42 N39 g_a1
  have f44 := (((((((F_checkoutNanos_a2.other W6 (Or.inl ne_a2_a1)).other W13 (Or.inl ne_a2_a1)).other W18 (Or.inl ne_a2_a1)).other W25 (Or.inl ne_a2_a1)).other W30 (Or.inl ne_a2_a1)).other W35 (Or.inl ne_a2_a1)).other W42 (Or.inl ne_a2_a1))
  -- pc 83
  have f45 := (((((((F_checkoutCount_a2.other W6 (Or.inl ne_a2_a1)).other W13 (Or.inl ne_a2_a1)).other W18 (Or.inl ne_a2_a1)).other W25 (Or.inl ne_a2_a1)).other W30 (Or.inl ne_a2_a1)).other W35 (Or.inl ne_a2_a1)).other W42 (Or.inl ne_a2_a1))
  -- pc 87
  -- pc 90: com/example/cistern/cistern/PoolState.averageMillis
  obtain ⟨_, _, ⟨T46, L46, k46, n46⟩, -, X46, ⟨Lc46, hQ46, l46, y46, z46⟩, st46⟩ := Jvm.LawKit.callS X42 hx (y := y1) hown (mvT hZ (W 27 rfl)) (mvT hZ (W 28 rfl)) (mvT hZ (W 16 rfl)) (mvT hZ (W 29 rfl)) (by decide) (backOf (W := 1) (rmavg l Z a0 ns hG [] c8 c7 h42 n0 Z43 O43) hZ (W 29 rfl) (W 16 rfl) (by decide) (by decide)) (g := (mkF m 90 #[.val (.ref a1), .val (.ref a2), .val (.int p1), .val (.int p2), .val (.int p3)] [(.long c7), (.long c8), (.ref a1)])) rfl (by rw [hml]; rfl) (argsL := [(.long c8), (.long c7)]) (rest := [(.ref a1)]) (lenOf pd__JJ_J rfl) rfl (by show 2 * 0 + _ ≤ _; exact Nat.le_of_eq rfl) (hb hby dx_prog_16_method_1_code_90) (fun _ _ => ⟨rfl, e42, (by decide : 0 + 0 ≤ _), (by decide : 0 + 0 ≤ _)⟩)
  dsimp only [Pt.U, Pt.locs, Pt.cells, Pt.slots] at X46 l46 y46 z46 st46 hQ46
  subst l46 y46 z46
  obtain ⟨rfl, N46q, eq46⟩ := hQ46
  have N46 := Fr.app N42 N46q
  have f47 := (f40.wr W42)
  have f48 := (((((((F_averageCheckoutTime_a1.other W6 (Or.inr (slot_ne (Or.inr (W 57 rfl)) (Or.inr (W 24 rfl)) (by decide) (t := .long) (t' := .long) (by decide) (by decide)))).other W13 (Or.inr (slot_ne (Or.inr (W 57 rfl)) (Or.inr (W 31 rfl)) (by decide) (t := .long) (t' := .long) (by decide) (by decide)))).other W18 (Or.inr (slot_ne (Or.inr (W 57 rfl)) (Or.inr (W 35 rfl)) (by decide) (t := .long) (t' := .long) (by decide) (by decide)))).other W25 (Or.inr (slot_ne (Or.inr (W 57 rfl)) (Or.inr (W 39 rfl)) (by decide) (t := .long) (t' := .long) (by decide) (by decide)))).other W30 (Or.inr (slot_ne (Or.inr (W 57 rfl)) (Or.inr (W 43 rfl)) (by decide) (t := .long) (t' := .long) (by decide) (by decide)))).other W35 (Or.inr (slot_ne (Or.inr (W 57 rfl)) (Or.inr (W 47 rfl)) (by decide) (t := .long) (t' := .long) (by decide) (by decide)))).other W42 (Or.inr (slot_ne (Or.inr (W 57 rfl)) (Or.inr (W 51 rfl)) (by decide) (t := .long) (t' := .long) (by decide) (by decide))))
  obtain ⟨T49, h49, X49, e49, W49, st49⟩ := putF X46 hx hZ hown (host := "") (Or.inl (W 56 rfl)) Via.refl eq46 f48 f47 (Or.inr ⟨(W 57 rfl), rfl, hnm⟩) (W 15 rfl) (ty := .long) (by decide) rfl rfl (g := (mkF m 93 #[.val (.ref a1), .val (.ref a2), .val (.int p1), .val (.int p2), .val (.int p3)] [(.long (own_avg c8 c7)), (.ref a1)])) rfl rfl (hb hby dx_prog_16_method_1_code_93)
  have Fw49 := f48.same W49
  have Z50 : n0 ≤ h49.size := Nat.le_trans Z43 (Keep.of_wr W49).1
  have K0_50 : Keep h0 h49 [a1] := K0_43.wr W49 (Or.inl (List.mem_of_getElem? (i := 0) rfl))
  have O50 : Old Z n0 h49 := O43.wr W49 g_a1
  have N49 := Fr.snoc X49 N46 g_a1
  have f51 := (f47.wr W49)
  have f52 := ((((((((F_idleConnectionCount_a1.other W6 (Or.inr (slot_ne (Or.inr (W 59 rfl)) (Or.inr (W 24 rfl)) (by decide) (t := .int) (t' := .long) (by decide) (by decide)))).other W13 (Or.inr (slot_ne (Or.inr (W 59 rfl)) (Or.inr (W 31 rfl)) (by decide) (t := .int) (t' := .long) (by decide) (by decide)))).other W18 (Or.inr (slot_ne (Or.inr (W 59 rfl)) (Or.inr (W 35 rfl)) (by decide) (t := .int) (t' := .long) (by decide) (by decide)))).other W25 (Or.inr (slot_ne (Or.inr (W 59 rfl)) (Or.inr (W 39 rfl)) (by decide) (t := .int) (t' := .long) (by decide) (by decide)))).other W30 (Or.inr (slot_ne (Or.inr (W 59 rfl)) (Or.inr (W 43 rfl)) (by decide) (t := .int) (t' := .long) (by decide) (by decide)))).other W35 (Or.inr (slot_ne (Or.inr (W 59 rfl)) (Or.inr (W 47 rfl)) (by decide) (t := .int) (t' := .long) (by decide) (by decide)))).other W42 (Or.inr (slot_ne (Or.inr (W 59 rfl)) (Or.inr (W 51 rfl)) (by decide) (t := .int) (t' := .long) (by decide) (by decide)))).other W49 (Or.inr (slot_ne (Or.inr (W 59 rfl)) (Or.inr (W 57 rfl)) (by decide) (t := .int) (t' := .long) (by decide) (by decide))))
  obtain ⟨T53, h53, X53, e53, W53, st53⟩ := putF X49 hx hZ hown (host := "") (Or.inl (W 58 rfl)) Via.refl e49 f52 f51 (Or.inr ⟨(W 59 rfl), rfl, hnm⟩) (W 15 rfl) (ty := .int) (by decide) rfl rfl (g := (mkF m 98 #[.val (.ref a1), .val (.ref a2), .val (.int p1), .val (.int p2), .val (.int p3)] [(.int p1), (.ref a1)])) rfl rfl (hb hby dx_prog_16_method_1_code_98)
  have Fw53 := f52.same W53
  have Z54 : n0 ≤ h53.size := Nat.le_trans Z50 (Keep.of_wr W53).1
  have K0_54 : Keep h0 h53 [a1] := K0_50.wr W53 (Or.inl (List.mem_of_getElem? (i := 0) rfl))
  have O54 : Old Z n0 h53 := O50.wr W53 g_a1
  have N53 := Fr.snoc X53 N49 g_a1
  have f55 := (f51.wr W53)
  have f56 := (((((((((F_activeConnectionCount_a1.other W6 (Or.inr (slot_ne (Or.inr (W 61 rfl)) (Or.inr (W 24 rfl)) (by decide) (t := .int) (t' := .long) (by decide) (by decide)))).other W13 (Or.inr (slot_ne (Or.inr (W 61 rfl)) (Or.inr (W 31 rfl)) (by decide) (t := .int) (t' := .long) (by decide) (by decide)))).other W18 (Or.inr (slot_ne (Or.inr (W 61 rfl)) (Or.inr (W 35 rfl)) (by decide) (t := .int) (t' := .long) (by decide) (by decide)))).other W25 (Or.inr (slot_ne (Or.inr (W 61 rfl)) (Or.inr (W 39 rfl)) (by decide) (t := .int) (t' := .long) (by decide) (by decide)))).other W30 (Or.inr (slot_ne (Or.inr (W 61 rfl)) (Or.inr (W 43 rfl)) (by decide) (t := .int) (t' := .long) (by decide) (by decide)))).other W35 (Or.inr (slot_ne (Or.inr (W 61 rfl)) (Or.inr (W 47 rfl)) (by decide) (t := .int) (t' := .long) (by decide) (by decide)))).other W42 (Or.inr (slot_ne (Or.inr (W 61 rfl)) (Or.inr (W 51 rfl)) (by decide) (t := .int) (t' := .long) (by decide) (by decide)))).other W49 (Or.inr (slot_ne (Or.inr (W 61 rfl)) (Or.inr (W 57 rfl)) (by decide) (t := .int) (t' := .long) (by decide) (by decide)))).other W53 (Or.inr (slot_ne (Or.inr (W 61 rfl)) (Or.inr (W 59 rfl)) (by decide) (t := .int) (t' := .int) (by decide) (by decide))))
  obtain ⟨T57, h57, X57, e57, W57, st57⟩ := putF X53 hx hZ hown (host := "") (Or.inl (W 60 rfl)) Via.refl e53 f56 f55 (Or.inr ⟨(W 61 rfl), rfl, hnm⟩) (W 15 rfl) (ty := .int) (by decide) rfl rfl (g := (mkF m 103 #[.val (.ref a1), .val (.ref a2), .val (.int p1), .val (.int p2), .val (.int p3)] [(.int p2), (.ref a1)])) rfl rfl (hb hby dx_prog_16_method_1_code_103)
  have Fw57 := f56.same W57
  have Z58 : n0 ≤ h57.size := Nat.le_trans Z54 (Keep.of_wr W57).1
  have K0_58 : Keep h0 h57 [a1] := K0_54.wr W57 (Or.inl (List.mem_of_getElem? (i := 0) rfl))
  have O58 : Old Z n0 h57 := O54.wr W57 g_a1
  have N57 := Fr.snoc X57 N53 g_a1
  have f59 := (f55.wr W57)
  have f60 := ((((((((((F_waitingCount_a1.other W6 (Or.inr (slot_ne (Or.inr (W 63 rfl)) (Or.inr (W 24 rfl)) (by decide) (t := .int) (t' := .long) (by decide) (by decide)))).other W13 (Or.inr (slot_ne (Or.inr (W 63 rfl)) (Or.inr (W 31 rfl)) (by decide) (t := .int) (t' := .long) (by decide) (by decide)))).other W18 (Or.inr (slot_ne (Or.inr (W 63 rfl)) (Or.inr (W 35 rfl)) (by decide) (t := .int) (t' := .long) (by decide) (by decide)))).other W25 (Or.inr (slot_ne (Or.inr (W 63 rfl)) (Or.inr (W 39 rfl)) (by decide) (t := .int) (t' := .long) (by decide) (by decide)))).other W30 (Or.inr (slot_ne (Or.inr (W 63 rfl)) (Or.inr (W 43 rfl)) (by decide) (t := .int) (t' := .long) (by decide) (by decide)))).other W35 (Or.inr (slot_ne (Or.inr (W 63 rfl)) (Or.inr (W 47 rfl)) (by decide) (t := .int) (t' := .long) (by decide) (by decide)))).other W42 (Or.inr (slot_ne (Or.inr (W 63 rfl)) (Or.inr (W 51 rfl)) (by decide) (t := .int) (t' := .long) (by decide) (by decide)))).other W49 (Or.inr (slot_ne (Or.inr (W 63 rfl)) (Or.inr (W 57 rfl)) (by decide) (t := .int) (t' := .long) (by decide) (by decide)))).other W53 (Or.inr (slot_ne (Or.inr (W 63 rfl)) (Or.inr (W 59 rfl)) (by decide) (t := .int) (t' := .int) (by decide) (by decide)))).other W57 (Or.inr (slot_ne (Or.inr (W 63 rfl)) (Or.inr (W 61 rfl)) (by decide) (t := .int) (t' := .int) (by decide) (by decide))))
  obtain ⟨T61, h61, X61, e61, W61, st61⟩ := putF X57 hx hZ hown (host := "") (Or.inl (W 62 rfl)) Via.refl e57 f60 f59 (Or.inr ⟨(W 63 rfl), rfl, hnm⟩) (W 15 rfl) (ty := .int) (by decide) rfl rfl (g := (mkF m 109 #[.val (.ref a1), .val (.ref a2), .val (.int p1), .val (.int p2), .val (.int p3)] [(.int p3), (.ref a1)])) rfl rfl (hb hby dx_prog_16_method_1_code_109)
  have Fw61 := f60.same W61
  have Z62 : n0 ≤ h61.size := Nat.le_trans Z58 (Keep.of_wr W61).1
  have K0_62 : Keep h0 h61 [a1] := K0_58.wr W61 (Or.inl (List.mem_of_getElem? (i := 0) rfl))
  have O62 : Old Z n0 h61 := O58.wr W61 g_a1
  have N61 := Fr.snoc X61 N57 g_a1
  have f63 := (((((((((((F_connectionsOpened_a2.other W6 (Or.inl ne_a2_a1)).other W13 (Or.inl ne_a2_a1)).other W18 (Or.inl ne_a2_a1)).other W25 (Or.inl ne_a2_a1)).other W30 (Or.inl ne_a2_a1)).other W35 (Or.inl ne_a2_a1)).other W42 (Or.inl ne_a2_a1)).other W49 (Or.inl ne_a2_a1)).other W53 (Or.inl ne_a2_a1)).other W57 (Or.inl ne_a2_a1)).other W61 (Or.inl ne_a2_a1))
  -- pc 114
  have f64 := (f59.wr W61)
  have f65 := (((((((((((F_connectionsOpened_a1.other W6 (Or.inr (slot_ne (Or.inr (W 67 rfl)) (Or.inr (W 24 rfl)) (by decide) (t := .long) (t' := .long) (by decide) (by decide)))).other W13 (Or.inr (slot_ne (Or.inr (W 67 rfl)) (Or.inr (W 31 rfl)) (by decide) (t := .long) (t' := .long) (by decide) (by decide)))).other W18 (Or.inr (slot_ne (Or.inr (W 67 rfl)) (Or.inr (W 35 rfl)) (by decide) (t := .long) (t' := .long) (by decide) (by decide)))).other W25 (Or.inr (slot_ne (Or.inr (W 67 rfl)) (Or.inr (W 39 rfl)) (by decide) (t := .long) (t' := .long) (by decide) (by decide)))).other W30 (Or.inr (slot_ne (Or.inr (W 67 rfl)) (Or.inr (W 43 rfl)) (by decide) (t := .long) (t' := .long) (by decide) (by decide)))).other W35 (Or.inr (slot_ne (Or.inr (W 67 rfl)) (Or.inr (W 47 rfl)) (by decide) (t := .long) (t' := .long) (by decide) (by decide)))).other W42 (Or.inr (slot_ne (Or.inr (W 67 rfl)) (Or.inr (W 51 rfl)) (by decide) (t := .long) (t' := .long) (by decide) (by decide)))).other W49 (Or.inr (slot_ne (Or.inr (W 67 rfl)) (Or.inr (W 57 rfl)) (by decide) (t := .long) (t' := .long) (by decide) (by decide)))).other W53 (Or.inr (slot_ne (Or.inr (W 67 rfl)) (Or.inr (W 59 rfl)) (by decide) (t := .long) (t' := .int) (by decide) (by decide)))).other W57 (Or.inr (slot_ne (Or.inr (W 67 rfl)) (Or.inr (W 61 rfl)) (by decide) (t := .long) (t' := .int) (by decide) (by decide)))).other W61 (Or.inr (slot_ne (Or.inr (W 67 rfl)) (Or.inr (W 63 rfl)) (by decide) (t := .long) (t' := .int) (by decide) (by decide))))
  obtain ⟨T66, h66, X66, e66, W66, st66⟩ := putF X61 hx hZ hown (host := "") (Or.inl (W 66 rfl)) Via.refl e61 f65 f64 (Or.inr ⟨(W 67 rfl), rfl, hnm⟩) (W 15 rfl) (ty := .long) (by decide) rfl rfl (g := (mkF m 117 #[.val (.ref a1), .val (.ref a2), .val (.int p1), .val (.int p2), .val (.int p3)] [(.long c9), (.ref a1)])) rfl rfl (hb hby dx_prog_16_method_1_code_117)
  have Fw66 := f65.same W66
  have Z67 : n0 ≤ h66.size := Nat.le_trans Z62 (Keep.of_wr W66).1
  have K0_67 : Keep h0 h66 [a1] := K0_62.wr W66 (Or.inl (List.mem_of_getElem? (i := 0) rfl))
  have O67 : Old Z n0 h66 := O62.wr W66 g_a1
  have N66 := Fr.snoc X66 N61 g_a1
  have f68 := (f64.wr W66)
  have f69 := (((((((((((Fw6.other W13 (Or.inr (slot_ne (Or.inr (W 24 rfl)) (Or.inr (W 31 rfl)) (by decide) (t := .long) (t' := .long) (by decide) (by decide)))).other W18 (Or.inr (slot_ne (Or.inr (W 24 rfl)) (Or.inr (W 35 rfl)) (by decide) (t := .long) (t' := .long) (by decide) (by decide)))).other W25 (Or.inr (slot_ne (Or.inr (W 24 rfl)) (Or.inr (W 39 rfl)) (by decide) (t := .long) (t' := .long) (by decide) (by decide)))).other W30 (Or.inr (slot_ne (Or.inr (W 24 rfl)) (Or.inr (W 43 rfl)) (by decide) (t := .long) (t' := .long) (by decide) (by decide)))).other W35 (Or.inr (slot_ne (Or.inr (W 24 rfl)) (Or.inr (W 47 rfl)) (by decide) (t := .long) (t' := .long) (by decide) (by decide)))).other W42 (Or.inr (slot_ne (Or.inr (W 24 rfl)) (Or.inr (W 51 rfl)) (by decide) (t := .long) (t' := .long) (by decide) (by decide)))).other W49 (Or.inr (slot_ne (Or.inr (W 24 rfl)) (Or.inr (W 57 rfl)) (by decide) (t := .long) (t' := .long) (by decide) (by decide)))).other W53 (Or.inr (slot_ne (Or.inr (W 24 rfl)) (Or.inr (W 59 rfl)) (by decide) (t := .long) (t' := .int) (by decide) (by decide)))).other W57 (Or.inr (slot_ne (Or.inr (W 24 rfl)) (Or.inr (W 61 rfl)) (by decide) (t := .long) (t' := .int) (by decide) (by decide)))).other W61 (Or.inr (slot_ne (Or.inr (W 24 rfl)) (Or.inr (W 63 rfl)) (by decide) (t := .long) (t' := .int) (by decide) (by decide)))).other W66 (Or.inr (slot_ne (Or.inr (W 24 rfl)) (Or.inr (W 67 rfl)) (by decide) (t := .long) (t' := .long) (by decide) (by decide))))
  have f70 := ((((((((((Fw13.other W18 (Or.inr (slot_ne (Or.inr (W 31 rfl)) (Or.inr (W 35 rfl)) (by decide) (t := .long) (t' := .long) (by decide) (by decide)))).other W25 (Or.inr (slot_ne (Or.inr (W 31 rfl)) (Or.inr (W 39 rfl)) (by decide) (t := .long) (t' := .long) (by decide) (by decide)))).other W30 (Or.inr (slot_ne (Or.inr (W 31 rfl)) (Or.inr (W 43 rfl)) (by decide) (t := .long) (t' := .long) (by decide) (by decide)))).other W35 (Or.inr (slot_ne (Or.inr (W 31 rfl)) (Or.inr (W 47 rfl)) (by decide) (t := .long) (t' := .long) (by decide) (by decide)))).other W42 (Or.inr (slot_ne (Or.inr (W 31 rfl)) (Or.inr (W 51 rfl)) (by decide) (t := .long) (t' := .long) (by decide) (by decide)))).other W49 (Or.inr (slot_ne (Or.inr (W 31 rfl)) (Or.inr (W 57 rfl)) (by decide) (t := .long) (t' := .long) (by decide) (by decide)))).other W53 (Or.inr (slot_ne (Or.inr (W 31 rfl)) (Or.inr (W 59 rfl)) (by decide) (t := .long) (t' := .int) (by decide) (by decide)))).other W57 (Or.inr (slot_ne (Or.inr (W 31 rfl)) (Or.inr (W 61 rfl)) (by decide) (t := .long) (t' := .int) (by decide) (by decide)))).other W61 (Or.inr (slot_ne (Or.inr (W 31 rfl)) (Or.inr (W 63 rfl)) (by decide) (t := .long) (t' := .int) (by decide) (by decide)))).other W66 (Or.inr (slot_ne (Or.inr (W 31 rfl)) (Or.inr (W 67 rfl)) (by decide) (t := .long) (t' := .long) (by decide) (by decide))))
  have f71 := (((((((((Fw18.other W25 (Or.inr (slot_ne (Or.inr (W 35 rfl)) (Or.inr (W 39 rfl)) (by decide) (t := .long) (t' := .long) (by decide) (by decide)))).other W30 (Or.inr (slot_ne (Or.inr (W 35 rfl)) (Or.inr (W 43 rfl)) (by decide) (t := .long) (t' := .long) (by decide) (by decide)))).other W35 (Or.inr (slot_ne (Or.inr (W 35 rfl)) (Or.inr (W 47 rfl)) (by decide) (t := .long) (t' := .long) (by decide) (by decide)))).other W42 (Or.inr (slot_ne (Or.inr (W 35 rfl)) (Or.inr (W 51 rfl)) (by decide) (t := .long) (t' := .long) (by decide) (by decide)))).other W49 (Or.inr (slot_ne (Or.inr (W 35 rfl)) (Or.inr (W 57 rfl)) (by decide) (t := .long) (t' := .long) (by decide) (by decide)))).other W53 (Or.inr (slot_ne (Or.inr (W 35 rfl)) (Or.inr (W 59 rfl)) (by decide) (t := .long) (t' := .int) (by decide) (by decide)))).other W57 (Or.inr (slot_ne (Or.inr (W 35 rfl)) (Or.inr (W 61 rfl)) (by decide) (t := .long) (t' := .int) (by decide) (by decide)))).other W61 (Or.inr (slot_ne (Or.inr (W 35 rfl)) (Or.inr (W 63 rfl)) (by decide) (t := .long) (t' := .int) (by decide) (by decide)))).other W66 (Or.inr (slot_ne (Or.inr (W 35 rfl)) (Or.inr (W 67 rfl)) (by decide) (t := .long) (t' := .long) (by decide) (by decide))))
  have f72 := ((((((((Fw25.other W30 (Or.inr (slot_ne (Or.inr (W 39 rfl)) (Or.inr (W 43 rfl)) (by decide) (t := .long) (t' := .long) (by decide) (by decide)))).other W35 (Or.inr (slot_ne (Or.inr (W 39 rfl)) (Or.inr (W 47 rfl)) (by decide) (t := .long) (t' := .long) (by decide) (by decide)))).other W42 (Or.inr (slot_ne (Or.inr (W 39 rfl)) (Or.inr (W 51 rfl)) (by decide) (t := .long) (t' := .long) (by decide) (by decide)))).other W49 (Or.inr (slot_ne (Or.inr (W 39 rfl)) (Or.inr (W 57 rfl)) (by decide) (t := .long) (t' := .long) (by decide) (by decide)))).other W53 (Or.inr (slot_ne (Or.inr (W 39 rfl)) (Or.inr (W 59 rfl)) (by decide) (t := .long) (t' := .int) (by decide) (by decide)))).other W57 (Or.inr (slot_ne (Or.inr (W 39 rfl)) (Or.inr (W 61 rfl)) (by decide) (t := .long) (t' := .int) (by decide) (by decide)))).other W61 (Or.inr (slot_ne (Or.inr (W 39 rfl)) (Or.inr (W 63 rfl)) (by decide) (t := .long) (t' := .int) (by decide) (by decide)))).other W66 (Or.inr (slot_ne (Or.inr (W 39 rfl)) (Or.inr (W 67 rfl)) (by decide) (t := .long) (t' := .long) (by decide) (by decide))))
  have f73 := (((((((Fw30.other W35 (Or.inr (slot_ne (Or.inr (W 43 rfl)) (Or.inr (W 47 rfl)) (by decide) (t := .long) (t' := .long) (by decide) (by decide)))).other W42 (Or.inr (slot_ne (Or.inr (W 43 rfl)) (Or.inr (W 51 rfl)) (by decide) (t := .long) (t' := .long) (by decide) (by decide)))).other W49 (Or.inr (slot_ne (Or.inr (W 43 rfl)) (Or.inr (W 57 rfl)) (by decide) (t := .long) (t' := .long) (by decide) (by decide)))).other W53 (Or.inr (slot_ne (Or.inr (W 43 rfl)) (Or.inr (W 59 rfl)) (by decide) (t := .long) (t' := .int) (by decide) (by decide)))).other W57 (Or.inr (slot_ne (Or.inr (W 43 rfl)) (Or.inr (W 61 rfl)) (by decide) (t := .long) (t' := .int) (by decide) (by decide)))).other W61 (Or.inr (slot_ne (Or.inr (W 43 rfl)) (Or.inr (W 63 rfl)) (by decide) (t := .long) (t' := .int) (by decide) (by decide)))).other W66 (Or.inr (slot_ne (Or.inr (W 43 rfl)) (Or.inr (W 67 rfl)) (by decide) (t := .long) (t' := .long) (by decide) (by decide))))
  have f74 := ((((((Fw35.other W42 (Or.inr (slot_ne (Or.inr (W 47 rfl)) (Or.inr (W 51 rfl)) (by decide) (t := .long) (t' := .long) (by decide) (by decide)))).other W49 (Or.inr (slot_ne (Or.inr (W 47 rfl)) (Or.inr (W 57 rfl)) (by decide) (t := .long) (t' := .long) (by decide) (by decide)))).other W53 (Or.inr (slot_ne (Or.inr (W 47 rfl)) (Or.inr (W 59 rfl)) (by decide) (t := .long) (t' := .int) (by decide) (by decide)))).other W57 (Or.inr (slot_ne (Or.inr (W 47 rfl)) (Or.inr (W 61 rfl)) (by decide) (t := .long) (t' := .int) (by decide) (by decide)))).other W61 (Or.inr (slot_ne (Or.inr (W 47 rfl)) (Or.inr (W 63 rfl)) (by decide) (t := .long) (t' := .int) (by decide) (by decide)))).other W66 (Or.inr (slot_ne (Or.inr (W 47 rfl)) (Or.inr (W 67 rfl)) (by decide) (t := .long) (t' := .long) (by decide) (by decide))))
  have f75 := (((((Fw42.other W49 (Or.inr (slot_ne (Or.inr (W 51 rfl)) (Or.inr (W 57 rfl)) (by decide) (t := .long) (t' := .long) (by decide) (by decide)))).other W53 (Or.inr (slot_ne (Or.inr (W 51 rfl)) (Or.inr (W 59 rfl)) (by decide) (t := .long) (t' := .int) (by decide) (by decide)))).other W57 (Or.inr (slot_ne (Or.inr (W 51 rfl)) (Or.inr (W 61 rfl)) (by decide) (t := .long) (t' := .int) (by decide) (by decide)))).other W61 (Or.inr (slot_ne (Or.inr (W 51 rfl)) (Or.inr (W 63 rfl)) (by decide) (t := .long) (t' := .int) (by decide) (by decide)))).other W66 (Or.inr (slot_ne (Or.inr (W 51 rfl)) (Or.inr (W 67 rfl)) (by decide) (t := .long) (t' := .long) (by decide) (by decide))))
  have f76 := ((((Fw49.other W53 (Or.inr (slot_ne (Or.inr (W 57 rfl)) (Or.inr (W 59 rfl)) (by decide) (t := .long) (t' := .int) (by decide) (by decide)))).other W57 (Or.inr (slot_ne (Or.inr (W 57 rfl)) (Or.inr (W 61 rfl)) (by decide) (t := .long) (t' := .int) (by decide) (by decide)))).other W61 (Or.inr (slot_ne (Or.inr (W 57 rfl)) (Or.inr (W 63 rfl)) (by decide) (t := .long) (t' := .int) (by decide) (by decide)))).other W66 (Or.inr (slot_ne (Or.inr (W 57 rfl)) (Or.inr (W 67 rfl)) (by decide) (t := .long) (t' := .long) (by decide) (by decide))))
  have f77 := (((Fw53.other W57 (Or.inr (slot_ne (Or.inr (W 59 rfl)) (Or.inr (W 61 rfl)) (by decide) (t := .int) (t' := .int) (by decide) (by decide)))).other W61 (Or.inr (slot_ne (Or.inr (W 59 rfl)) (Or.inr (W 63 rfl)) (by decide) (t := .int) (t' := .int) (by decide) (by decide)))).other W66 (Or.inr (slot_ne (Or.inr (W 59 rfl)) (Or.inr (W 67 rfl)) (by decide) (t := .int) (t' := .long) (by decide) (by decide))))
  have f78 := ((Fw57.other W61 (Or.inr (slot_ne (Or.inr (W 61 rfl)) (Or.inr (W 63 rfl)) (by decide) (t := .int) (t' := .int) (by decide) (by decide)))).other W66 (Or.inr (slot_ne (Or.inr (W 61 rfl)) (Or.inr (W 67 rfl)) (by decide) (t := .int) (t' := .long) (by decide) (by decide))))
  have f79 := (Fw61.other W66 (Or.inr (slot_ne (Or.inr (W 63 rfl)) (Or.inr (W 67 rfl)) (by decide) (t := .int) (t' := .long) (by decide) (by decide))))
  obtain ⟨fs, hr, hrun, hended, hW, hsame⟩ := X66.leave (v := none) (fun _ => rfl)
  refine ⟨_, _, pre0 _ ?_, hrun, hended, _, _, rfl, ?_, ⟨_, rfl⟩, hW, hsame.mono (Nat.le_of_ble_eq_true rfl) (Nat.le_of_ble_eq_true rfl)⟩
  · show Steps p.tables e below (s₁.setTop (mkF m 0 #[.val (.ref a1), .val (.ref a2), .val (.int p1), .val (.int p2), .val (.int p3)] [])) _
    refine XS.aloadN X0.here hx rfl (hb hby dx_prog_16_method_1_code_0) rfl rfl ?_
    show Steps p.tables e below (s₁.setTop (mkF m 1 #[.val (.ref a1), .val (.ref a2), .val (.int p1), .val (.int p2), .val (.int p3)] [(.ref a1)])) _
    refine st5 _ ?_
    show Steps p.tables e below (T5.setTop (mkF m 4 #[.val (.ref a1), .val (.ref a2), .val (.int p1), .val (.int p2), .val (.int p3)] [])) _
    refine XS.aloadN X5.here hx rfl (hb hby dx_prog_16_method_1_code_4) rfl rfl ?_
    show Steps p.tables e below (T5.setTop (mkF m 5 #[.val (.ref a1), .val (.ref a2), .val (.int p1), .val (.int p2), .val (.int p3)] [(.ref a1)])) _
    refine XS.aloadN X5.here hx rfl (hb hby dx_prog_16_method_1_code_5) rfl rfl ?_
    show Steps p.tables e below (T5.setTop (mkF m 6 #[.val (.ref a1), .val (.ref a2), .val (.int p1), .val (.int p2), .val (.int p3)] [(.ref a2), (.ref a1)])) _
    refine getFR X5 hx hZ hown (W 21 rfl) e5 F_requestCount_a2 (g := (mkF m 6 #[.val (.ref a1), .val (.ref a2), .val (.int p1), .val (.int p2), .val (.int p3)] [(.ref a2), (.ref a1)])) rfl rfl (hb hby dx_prog_16_method_1_code_6) _ ?_
    show Steps p.tables e below (T5.setTop (mkF m 9 #[.val (.ref a1), .val (.ref a2), .val (.int p1), .val (.int p2), .val (.int p3)] [(.long c0), (.ref a1)])) _
    refine st6 _ ?_
    show Steps p.tables e below (T6.setTop (mkF m 12 #[.val (.ref a1), .val (.ref a2), .val (.int p1), .val (.int p2), .val (.int p3)] [])) _
    refine XS.aloadN X6.here hx rfl (hb hby dx_prog_16_method_1_code_12) rfl rfl ?_
    show Steps p.tables e below (T6.setTop (mkF m 13 #[.val (.ref a1), .val (.ref a2), .val (.int p1), .val (.int p2), .val (.int p3)] [(.ref a1)])) _
    refine XS.aloadN X6.here hx rfl (hb hby dx_prog_16_method_1_code_13) rfl rfl ?_
    show Steps p.tables e below (T6.setTop (mkF m 14 #[.val (.ref a1), .val (.ref a2), .val (.int p1), .val (.int p2), .val (.int p3)] [(.ref a2), (.ref a1)])) _
    refine getFR X6 hx hZ hown (W 25 rfl) e6 f8 (g := (mkF m 14 #[.val (.ref a1), .val (.ref a2), .val (.int p1), .val (.int p2), .val (.int p3)] [(.ref a2), (.ref a1)])) rfl rfl (hb hby dx_prog_16_method_1_code_14) _ ?_
    show Steps p.tables e below (T6.setTop (mkF m 17 #[.val (.ref a1), .val (.ref a2), .val (.int p1), .val (.int p2), .val (.int p3)] [(.long c1), (.ref a1)])) _
    refine XS.aloadN X6.here hx rfl (hb hby dx_prog_16_method_1_code_17) rfl rfl ?_
    show Steps p.tables e below (T6.setTop (mkF m 18 #[.val (.ref a1), .val (.ref a2), .val (.int p1), .val (.int p2), .val (.int p3)] [(.ref a2), (.long c1), (.ref a1)])) _
    refine getFR X6 hx hZ hown (W 21 rfl) e6 f9 (g := (mkF m 18 #[.val (.ref a1), .val (.ref a2), .val (.int p1), .val (.int p2), .val (.int p3)] [(.ref a2), (.long c1), (.ref a1)])) rfl rfl (hb hby dx_prog_16_method_1_code_18) _ ?_
    show Steps p.tables e below (T6.setTop (mkF m 21 #[.val (.ref a1), .val (.ref a2), .val (.int p1), .val (.int p2), .val (.int p3)] [(.long c0), (.long c1), (.ref a1)])) _
    refine st10 _ ?_
    show Steps p.tables e below (T10.setTop (mkF m 24 #[.val (.ref a1), .val (.ref a2), .val (.int p1), .val (.int p2), .val (.int p3)] [(.long (own_avg c1 c0)), (.ref a1)])) _
    refine st13 _ ?_
    show Steps p.tables e below (T13.setTop (mkF m 27 #[.val (.ref a1), .val (.ref a2), .val (.int p1), .val (.int p2), .val (.int p3)] [])) _
    refine XS.aloadN X13.here hx rfl (hb hby dx_prog_16_method_1_code_27) rfl rfl ?_
    show Steps p.tables e below (T13.setTop (mkF m 28 #[.val (.ref a1), .val (.ref a2), .val (.int p1), .val (.int p2), .val (.int p3)] [(.ref a1)])) _
    refine XS.aloadN X13.here hx rfl (hb hby dx_prog_16_method_1_code_28) rfl rfl ?_
    show Steps p.tables e below (T13.setTop (mkF m 29 #[.val (.ref a1), .val (.ref a2), .val (.int p1), .val (.int p2), .val (.int p3)] [(.ref a2), (.ref a1)])) _
    refine getFR X13 hx hZ hown (W 32 rfl) e13 f15 (g := (mkF m 29 #[.val (.ref a1), .val (.ref a2), .val (.int p1), .val (.int p2), .val (.int p3)] [(.ref a2), (.ref a1)])) rfl rfl (hb hby dx_prog_16_method_1_code_29) _ ?_
    show Steps p.tables e below (T13.setTop (mkF m 32 #[.val (.ref a1), .val (.ref a2), .val (.int p1), .val (.int p2), .val (.int p3)] [(.long c2), (.ref a1)])) _
    refine st18 _ ?_
    show Steps p.tables e below (T18.setTop (mkF m 35 #[.val (.ref a1), .val (.ref a2), .val (.int p1), .val (.int p2), .val (.int p3)] [])) _
    refine XS.aloadN X18.here hx rfl (hb hby dx_prog_16_method_1_code_35) rfl rfl ?_
    show Steps p.tables e below (T18.setTop (mkF m 36 #[.val (.ref a1), .val (.ref a2), .val (.int p1), .val (.int p2), .val (.int p3)] [(.ref a1)])) _
    refine XS.aloadN X18.here hx rfl (hb hby dx_prog_16_method_1_code_36) rfl rfl ?_
    show Steps p.tables e below (T18.setTop (mkF m 37 #[.val (.ref a1), .val (.ref a2), .val (.int p1), .val (.int p2), .val (.int p3)] [(.ref a2), (.ref a1)])) _
    refine getFR X18 hx hZ hown (W 36 rfl) e18 f20 (g := (mkF m 37 #[.val (.ref a1), .val (.ref a2), .val (.int p1), .val (.int p2), .val (.int p3)] [(.ref a2), (.ref a1)])) rfl rfl (hb hby dx_prog_16_method_1_code_37) _ ?_
    show Steps p.tables e below (T18.setTop (mkF m 40 #[.val (.ref a1), .val (.ref a2), .val (.int p1), .val (.int p2), .val (.int p3)] [(.long c3), (.ref a1)])) _
    refine XS.aloadN X18.here hx rfl (hb hby dx_prog_16_method_1_code_40) rfl rfl ?_
    show Steps p.tables e below (T18.setTop (mkF m 41 #[.val (.ref a1), .val (.ref a2), .val (.int p1), .val (.int p2), .val (.int p3)] [(.ref a2), (.long c3), (.ref a1)])) _
    refine getFR X18 hx hZ hown (W 32 rfl) e18 f21 (g := (mkF m 41 #[.val (.ref a1), .val (.ref a2), .val (.int p1), .val (.int p2), .val (.int p3)] [(.ref a2), (.long c3), (.ref a1)])) rfl rfl (hb hby dx_prog_16_method_1_code_41) _ ?_
    show Steps p.tables e below (T18.setTop (mkF m 44 #[.val (.ref a1), .val (.ref a2), .val (.int p1), .val (.int p2), .val (.int p3)] [(.long c2), (.long c3), (.ref a1)])) _
    refine st22 _ ?_
    show Steps p.tables e below (T22.setTop (mkF m 47 #[.val (.ref a1), .val (.ref a2), .val (.int p1), .val (.int p2), .val (.int p3)] [(.long (own_avg c3 c2)), (.ref a1)])) _
    refine st25 _ ?_
    show Steps p.tables e below (T25.setTop (mkF m 50 #[.val (.ref a1), .val (.ref a2), .val (.int p1), .val (.int p2), .val (.int p3)] [])) _
    refine XS.aloadN X25.here hx rfl (hb hby dx_prog_16_method_1_code_50) rfl rfl ?_
    show Steps p.tables e below (T25.setTop (mkF m 51 #[.val (.ref a1), .val (.ref a2), .val (.int p1), .val (.int p2), .val (.int p3)] [(.ref a1)])) _
    refine XS.aloadN X25.here hx rfl (hb hby dx_prog_16_method_1_code_51) rfl rfl ?_
    show Steps p.tables e below (T25.setTop (mkF m 52 #[.val (.ref a1), .val (.ref a2), .val (.int p1), .val (.int p2), .val (.int p3)] [(.ref a2), (.ref a1)])) _
    refine getFR X25 hx hZ hown (W 40 rfl) e25 f27 (g := (mkF m 52 #[.val (.ref a1), .val (.ref a2), .val (.int p1), .val (.int p2), .val (.int p3)] [(.ref a2), (.ref a1)])) rfl rfl (hb hby dx_prog_16_method_1_code_52) _ ?_
    show Steps p.tables e below (T25.setTop (mkF m 55 #[.val (.ref a1), .val (.ref a2), .val (.int p1), .val (.int p2), .val (.int p3)] [(.long c4), (.ref a1)])) _
    refine st30 _ ?_
    show Steps p.tables e below (T30.setTop (mkF m 58 #[.val (.ref a1), .val (.ref a2), .val (.int p1), .val (.int p2), .val (.int p3)] [])) _
    refine XS.aloadN X30.here hx rfl (hb hby dx_prog_16_method_1_code_58) rfl rfl ?_
    show Steps p.tables e below (T30.setTop (mkF m 59 #[.val (.ref a1), .val (.ref a2), .val (.int p1), .val (.int p2), .val (.int p3)] [(.ref a1)])) _
    refine XS.aloadN X30.here hx rfl (hb hby dx_prog_16_method_1_code_59) rfl rfl ?_
    show Steps p.tables e below (T30.setTop (mkF m 60 #[.val (.ref a1), .val (.ref a2), .val (.int p1), .val (.int p2), .val (.int p3)] [(.ref a2), (.ref a1)])) _
    refine getFR X30 hx hZ hown (W 44 rfl) e30 f32 (g := (mkF m 60 #[.val (.ref a1), .val (.ref a2), .val (.int p1), .val (.int p2), .val (.int p3)] [(.ref a2), (.ref a1)])) rfl rfl (hb hby dx_prog_16_method_1_code_60) _ ?_
    show Steps p.tables e below (T30.setTop (mkF m 63 #[.val (.ref a1), .val (.ref a2), .val (.int p1), .val (.int p2), .val (.int p3)] [(.long c5), (.ref a1)])) _
    refine st35 _ ?_
    show Steps p.tables e below (T35.setTop (mkF m 66 #[.val (.ref a1), .val (.ref a2), .val (.int p1), .val (.int p2), .val (.int p3)] [])) _
    refine XS.aloadN X35.here hx rfl (hb hby dx_prog_16_method_1_code_66) rfl rfl ?_
    show Steps p.tables e below (T35.setTop (mkF m 67 #[.val (.ref a1), .val (.ref a2), .val (.int p1), .val (.int p2), .val (.int p3)] [(.ref a1)])) _
    refine XS.aloadN X35.here hx rfl (hb hby dx_prog_16_method_1_code_67) rfl rfl ?_
    show Steps p.tables e below (T35.setTop (mkF m 68 #[.val (.ref a1), .val (.ref a2), .val (.int p1), .val (.int p2), .val (.int p3)] [(.ref a2), (.ref a1)])) _
    refine getFR X35 hx hZ hown (W 48 rfl) e35 f37 (g := (mkF m 68 #[.val (.ref a1), .val (.ref a2), .val (.int p1), .val (.int p2), .val (.int p3)] [(.ref a2), (.ref a1)])) rfl rfl (hb hby dx_prog_16_method_1_code_68) _ ?_
    show Steps p.tables e below (T35.setTop (mkF m 71 #[.val (.ref a1), .val (.ref a2), .val (.int p1), .val (.int p2), .val (.int p3)] [(.long c6), (.ref a1)])) _
    refine XS.aloadN X35.here hx rfl (hb hby dx_prog_16_method_1_code_71) rfl rfl ?_
    show Steps p.tables e below (T35.setTop (mkF m 72 #[.val (.ref a1), .val (.ref a2), .val (.int p1), .val (.int p2), .val (.int p3)] [(.ref a2), (.long c6), (.ref a1)])) _
    refine getFR X35 hx hZ hown (W 44 rfl) e35 f38 (g := (mkF m 72 #[.val (.ref a1), .val (.ref a2), .val (.int p1), .val (.int p2), .val (.int p3)] [(.ref a2), (.long c6), (.ref a1)])) rfl rfl (hb hby dx_prog_16_method_1_code_72) _ ?_
    show Steps p.tables e below (T35.setTop (mkF m 75 #[.val (.ref a1), .val (.ref a2), .val (.int p1), .val (.int p2), .val (.int p3)] [(.long c5), (.long c6), (.ref a1)])) _
    refine st39 _ ?_
    show Steps p.tables e below (T39.setTop (mkF m 78 #[.val (.ref a1), .val (.ref a2), .val (.int p1), .val (.int p2), .val (.int p3)] [(.long (own_avg c6 c5)), (.ref a1)])) _
    refine st42 _ ?_
    show Steps p.tables e below (T42.setTop (mkF m 81 #[.val (.ref a1), .val (.ref a2), .val (.int p1), .val (.int p2), .val (.int p3)] [])) _
    refine XS.aloadN X42.here hx rfl (hb hby dx_prog_16_method_1_code_81) rfl rfl ?_
    show Steps p.tables e below (T42.setTop (mkF m 82 #[.val (.ref a1), .val (.ref a2), .val (.int p1), .val (.int p2), .val (.int p3)] [(.ref a1)])) _
    refine XS.aloadN X42.here hx rfl (hb hby dx_prog_16_method_1_code_82) rfl rfl ?_
    show Steps p.tables e below (T42.setTop (mkF m 83 #[.val (.ref a1), .val (.ref a2), .val (.int p1), .val (.int p2), .val (.int p3)] [(.ref a2), (.ref a1)])) _
    refine getFR X42 hx hZ hown (W 52 rfl) e42 f44 (g := (mkF m 83 #[.val (.ref a1), .val (.ref a2), .val (.int p1), .val (.int p2), .val (.int p3)] [(.ref a2), (.ref a1)])) rfl rfl (hb hby dx_prog_16_method_1_code_83) _ ?_
    show Steps p.tables e below (T42.setTop (mkF m 86 #[.val (.ref a1), .val (.ref a2), .val (.int p1), .val (.int p2), .val (.int p3)] [(.long c8), (.ref a1)])) _
    refine XS.aloadN X42.here hx rfl (hb hby dx_prog_16_method_1_code_86) rfl rfl ?_
    show Steps p.tables e below (T42.setTop (mkF m 87 #[.val (.ref a1), .val (.ref a2), .val (.int p1), .val (.int p2), .val (.int p3)] [(.ref a2), (.long c8), (.ref a1)])) _
    refine getFR X42 hx hZ hown (W 54 rfl) e42 f45 (g := (mkF m 87 #[.val (.ref a1), .val (.ref a2), .val (.int p1), .val (.int p2), .val (.int p3)] [(.ref a2), (.long c8), (.ref a1)])) rfl rfl (hb hby dx_prog_16_method_1_code_87) _ ?_
    show Steps p.tables e below (T42.setTop (mkF m 90 #[.val (.ref a1), .val (.ref a2), .val (.int p1), .val (.int p2), .val (.int p3)] [(.long c7), (.long c8), (.ref a1)])) _
    refine st46 _ ?_
    show Steps p.tables e below (T46.setTop (mkF m 93 #[.val (.ref a1), .val (.ref a2), .val (.int p1), .val (.int p2), .val (.int p3)] [(.long (own_avg c8 c7)), (.ref a1)])) _
    refine st49 _ ?_
    show Steps p.tables e below (T49.setTop (mkF m 96 #[.val (.ref a1), .val (.ref a2), .val (.int p1), .val (.int p2), .val (.int p3)] [])) _
    refine XS.aloadN X49.here hx rfl (hb hby dx_prog_16_method_1_code_96) rfl rfl ?_
    show Steps p.tables e below (T49.setTop (mkF m 97 #[.val (.ref a1), .val (.ref a2), .val (.int p1), .val (.int p2), .val (.int p3)] [(.ref a1)])) _
    refine XS.iloadN X49.here hx rfl (hb hby dx_prog_16_method_1_code_97) rfl ?_
    show Steps p.tables e below (T49.setTop (mkF m 98 #[.val (.ref a1), .val (.ref a2), .val (.int p1), .val (.int p2), .val (.int p3)] [(.int p1), (.ref a1)])) _
    refine st53 _ ?_
    show Steps p.tables e below (T53.setTop (mkF m 101 #[.val (.ref a1), .val (.ref a2), .val (.int p1), .val (.int p2), .val (.int p3)] [])) _
    refine XS.aloadN X53.here hx rfl (hb hby dx_prog_16_method_1_code_101) rfl rfl ?_
    show Steps p.tables e below (T53.setTop (mkF m 102 #[.val (.ref a1), .val (.ref a2), .val (.int p1), .val (.int p2), .val (.int p3)] [(.ref a1)])) _
    refine XS.iloadN X53.here hx rfl (hb hby dx_prog_16_method_1_code_102) rfl ?_
    show Steps p.tables e below (T53.setTop (mkF m 103 #[.val (.ref a1), .val (.ref a2), .val (.int p1), .val (.int p2), .val (.int p3)] [(.int p2), (.ref a1)])) _
    refine st57 _ ?_
    show Steps p.tables e below (T57.setTop (mkF m 106 #[.val (.ref a1), .val (.ref a2), .val (.int p1), .val (.int p2), .val (.int p3)] [])) _
    refine XS.aloadN X57.here hx rfl (hb hby dx_prog_16_method_1_code_106) rfl rfl ?_
    show Steps p.tables e below (T57.setTop (mkF m 107 #[.val (.ref a1), .val (.ref a2), .val (.int p1), .val (.int p2), .val (.int p3)] [(.ref a1)])) _
    refine XS.iload X57.here hx rfl (hb hby dx_prog_16_method_1_code_107) rfl ?_
    show Steps p.tables e below (T57.setTop (mkF m 109 #[.val (.ref a1), .val (.ref a2), .val (.int p1), .val (.int p2), .val (.int p3)] [(.int p3), (.ref a1)])) _
    refine st61 _ ?_
    show Steps p.tables e below (T61.setTop (mkF m 112 #[.val (.ref a1), .val (.ref a2), .val (.int p1), .val (.int p2), .val (.int p3)] [])) _
    refine XS.aloadN X61.here hx rfl (hb hby dx_prog_16_method_1_code_112) rfl rfl ?_
    show Steps p.tables e below (T61.setTop (mkF m 113 #[.val (.ref a1), .val (.ref a2), .val (.int p1), .val (.int p2), .val (.int p3)] [(.ref a1)])) _
    refine XS.aloadN X61.here hx rfl (hb hby dx_prog_16_method_1_code_113) rfl rfl ?_
    show Steps p.tables e below (T61.setTop (mkF m 114 #[.val (.ref a1), .val (.ref a2), .val (.int p1), .val (.int p2), .val (.int p3)] [(.ref a2), (.ref a1)])) _
    refine getFR X61 hx hZ hown (W 64 rfl) e61 f63 (g := (mkF m 114 #[.val (.ref a1), .val (.ref a2), .val (.int p1), .val (.int p2), .val (.int p3)] [(.ref a2), (.ref a1)])) rfl rfl (hb hby dx_prog_16_method_1_code_114) _ ?_
    show Steps p.tables e below (T61.setTop (mkF m 117 #[.val (.ref a1), .val (.ref a2), .val (.int p1), .val (.int p2), .val (.int p3)] [(.long c9), (.ref a1)])) _
    refine st66 _ ?_
    show Steps p.tables e below (T66.setTop (mkF m 120 #[.val (.ref a1), .val (.ref a2), .val (.int p1), .val (.int p2), .val (.int p3)] [])) _
    exact X66.returnOut hx Bd.returns (hb hby dx_prog_16_method_1_code_120) hr
  · show Qpsi Z ns a1 a2 p1 p2 p3 c0 c1 c2 c3 c4 c5 c6 c7 c8 c9 h0 n0 _ T66.heap _
    rw [e66]
    exact ⟨rfl, N66, K0_67, f68, f69, f70, f71, f72, f73, f74, f75, f76, f77, f78, f79, Fw66⟩
theorem dx_prog_17_method_9_code_0 : decode prog_17_method_9_code 0 = .ok (.new 44, 3) := by decide +kernel
theorem dx_prog_17_method_9_code_3 : decode prog_17_method_9_code 3 = .ok (.dup, 1) := by decide +kernel
theorem dx_prog_17_method_9_code_4 : decode prog_17_method_9_code 4 = .ok (.aload_n 0, 1) := by decide +kernel
theorem dx_prog_17_method_9_code_5 : decode prog_17_method_9_code 5 = .ok (.iload_n 1, 1) := by decide +kernel
theorem dx_prog_17_method_9_code_6 : decode prog_17_method_9_code 6 = .ok (.iload_n 2, 1) := by decide +kernel
theorem dx_prog_17_method_9_code_7 : decode prog_17_method_9_code 7 = .ok (.iload_n 3, 1) := by decide +kernel
theorem dx_prog_17_method_9_code_8 : decode prog_17_method_9_code 8 = .ok (.invokespecial 46, 3) := by decide +kernel
theorem pd__Lcom_example_cistern_cistern_PoolState_Counters_III_V : parseMethodDescriptor "(Lcom/example/cistern/cistern/PoolState$Counters;III)V" = some ⟨[(.object "com/example/cistern/cistern/PoolState$Counters"), .int, .int, .int], none⟩ := by decide +kernel
theorem dx_prog_17_method_9_code_11 : decode prog_17_method_9_code 11 = .ok (.areturn, 1) := by decide +kernel
def Qsnap (Z : State) (ns : Addr) (a2 : Addr) (p1 : Int32) (p2 : Int32) (p3 : Int32) (c0 : Int64) (c1 : Int64) (c2 : Int64) (c3 : Int64) (c4 : Int64) (c5 : Int64) (c6 : Int64) (c7 : Int64) (c8 : Int64) (c9 : Int64) (h0 : Heap) (n0 : Nat) (v : Option Value) (h : Heap) (L : List Loc) : Prop := ∃ b : Addr, v = some (.ref b) ∧ Fr n0 L ∧ Keep h0 h [] ∧ h0.size ≤ b ∧ Exa Z h b "com/example/cistern/cistern/PoolState" ∧ Fld Z h b "com/example/cistern/cistern/PoolState" "requestCount" "J" (.long c0) ∧ Fld Z h b "com/example/cistern/cistern/PoolState" "averageRequestTime" "J" (.long (own_avg c1 c0)) ∧ Fld Z h b "com/example/cistern/cistern/PoolState" "hadToWaitCount" "J" (.long c2) ∧ Fld Z h b "com/example/cistern/cistern/PoolState" "averageWaitTime" "J" (.long (own_avg c3 c2)) ∧ Fld Z h b "com/example/cistern/cistern/PoolState" "badConnectionCount" "J" (.long c4) ∧ Fld Z h b "com/example/cistern/cistern/PoolState" "claimedOverdueConnectionCount" "J" (.long c5) ∧ Fld Z h b "com/example/cistern/cistern/PoolState" "averageOverdueCheckoutTime" "J" (.long (own_avg c6 c5)) ∧ Fld Z h b "com/example/cistern/cistern/PoolState" "averageCheckoutTime" "J" (.long (own_avg c8 c7)) ∧ Fld Z h b "com/example/cistern/cistern/PoolState" "idleConnectionCount" "I" (.int p1) ∧ Fld Z h b "com/example/cistern/cistern/PoolState" "activeConnectionCount" "I" (.int p2) ∧ Fld Z h b "com/example/cistern/cistern/PoolState" "waitingCount" "I" (.int p3) ∧ Fld Z h b "com/example/cistern/cistern/PoolState" "connectionsOpened" "J" (.long c9)
theorem ef_prog_17_method_9_code_RIII (m : MethodId) (x0 : Addr) (x1 : Int32) (x2 : Int32) (x3 : Int32) : entryFrame m #[(.ref x0), (.int x1), (.int x2), (.int x3)] 4 = mkF m 0 #[.val (.ref x0), .val (.int x1), .val (.int x2), .val (.int x3)] [] := by first | (simp [entryFrame, mkF, argsToLocals, Value.category]; done) | rfl
abbrev y3 : MethodName := ⟨"com/example/cistern/cistern/PoolState$Counters", "snapshot", "(III)Lcom/example/cistern/cistern/PoolState;"⟩
theorem pn_com_example_cistern_cistern_PoolState_Counters : plainName "com/example/cistern/cistern/PoolState$Counters" = true := by first | (simp [plainName, overriddenIn]; done) | decide +kernel
set_option maxRecDepth 65536 in
set_option maxHeartbeats 40000000 in
theorem rmsnap (l : Launch) (Z : State) (a0 : Array Value) (ns : Addr) (hG : Glob Z a0 ns) (ws : List Jvm.Cond) (a2 : Addr) (p1 : Int32) (p2 : Int32) (p3 : Int32) (c0 : Int64) (c1 : Int64) (c2 : Int64) (c3 : Int64) (c4 : Int64) (c5 : Int64) (c6 : Int64) (c7 : Int64) (c8 : Int64) (c9 : Int64) (h0 : Heap) (n0 : Nat) (Z0 : n0 ≤ h0.size) (X00 : Old Z n0 h0) (F_requestCount_a2 : Fld Z h0 a2 "com/example/cistern/cistern/PoolState$Counters" "requestCount" "J" (.long c0)) (F_requestNanos_a2 : Fld Z h0 a2 "com/example/cistern/cistern/PoolState$Counters" "requestNanos" "J" (.long c1)) (F_hadToWaitCount_a2 : Fld Z h0 a2 "com/example/cistern/cistern/PoolState$Counters" "hadToWaitCount" "J" (.long c2)) (F_waitNanos_a2 : Fld Z h0 a2 "com/example/cistern/cistern/PoolState$Counters" "waitNanos" "J" (.long c3)) (F_badConnectionCount_a2 : Fld Z h0 a2 "com/example/cistern/cistern/PoolState$Counters" "badConnectionCount" "J" (.long c4)) (F_claimedOverdueCount_a2 : Fld Z h0 a2 "com/example/cistern/cistern/PoolState$Counters" "claimedOverdueCount" "J" (.long c5)) (F_overdueCheckoutNanos_a2 : Fld Z h0 a2 "com/example/cistern/cistern/PoolState$Counters" "overdueCheckoutNanos" "J" (.long c6)) (F_checkoutCount_a2 : Fld Z h0 a2 "com/example/cistern/cistern/PoolState$Counters" "checkoutCount" "J" (.long c7)) (F_checkoutNanos_a2 : Fld Z h0 a2 "com/example/cistern/cistern/PoolState$Counters" "checkoutNanos" "J" (.long c8)) (F_connectionsOpened_a2 : Fld Z h0 a2 "com/example/cistern/cistern/PoolState$Counters" "connectionsOpened" "J" (.long c9)) :
    MetFree l y3 (head1 (Jvm.Cond.code y3 prog_17_method_9_code 4 (some (.object "com/example/cistern/cistern/PoolState")) :: ws) ({ frames := 3, cells := 1, slots := 12, locals := 51 } : Room)) (fun a U => a = #[(.ref a2), (.int p1), (.int p2), (.int p3)] ∧ Z.Warmed39 U.vm ∧ U.heap = h0) (fun _ _ _ _ _ => True) (fun _ U o U' => ∃ v L, o = .returned v ∧ Qsnap Z ns a2 p1 p2 p3 c0 c1 c2 c3 c4 c5 c6 c7 c8 c9 h0 n0 v U'.heap L ∧ FrameEnd U o U' L ({ frames := 3, cells := 1, slots := 12, locals := 51 } : Room).cells ({ frames := 3, cells := 1, slots := 12, locals := 51 } : Room).slots) := by
  obtain ⟨hw, O_ns, O_ens, O_scale, O_ratio⟩ := id hG
  have W : ∀ (i : Nat) {d : Jvm.Cond}, tables_1[i]? = some d → d.before a0 Z = true := fun i d h => hw d (List.mem_of_getElem? h)
  refine MetFree.of_bodySF (plainFor_of_name pn_com_example_cistern_cistern_PoolState_Counters) hisR ?_
  intro p e s m args below meth c s₁ Bd hml0 hP hK
  obtain ⟨rfl, hZ, hh⟩ := hP
  have hx := Bd.exec
  have hby := Bd.bytes
  have hml : c.maxLocals = 4 := hml0
  have hown : s.vm.findClass "com/example/cistern/cistern/PoolState$Counters" = some m.cls := findClass_of_methodNamed Bd.named
  have hnm := (name_of_methodNamed Bd.named Bd.method).1
  have X0 : Stand p l e ({ frames := 3, cells := 1, slots := 12, locals := 51 } : Room) s m #[(.ref a2), (.int p1), (.int p2), (.int p3)] below meth c s₁ [] 0 0 := Stand.of_body Bd
  have e0 : s₁.heap = h0 := by rw [← hh, Bd.state]; rfl
  have N0 := Fr.nil n0
  have pre0 : ∀ t, Steps p.tables e below (s₁.setTop (mkF m 0 #[.val (.ref a2), .val (.int p1), .val (.int p2), .val (.int p3)] [])) t → Steps p.tables e below (s₁.setTop (entryFrame m #[(.ref a2), (.int p1), (.int p2), (.int p3)] 4)) t := fun t kk_ => castTop (ef_prog_17_method_9_code_RIII m a2 p1 p2 p3) kk_
  obtain ⟨T80, h80, X80, e80, E80, A80, D80, -, st80⟩ := newO X0 hx hZ hown (W 14 rfl) (W 15 rfl) (W 16 rfl) e0 (g := (mkF m 0 #[.val (.ref a2), .val (.int p1), .val (.int p2), .val (.int p3)] [])) rfl (hb hby dx_prog_17_method_9_code_0) (by decide) (by decide)
  obtain ⟨b80, g80⟩ : ∃ z, z = h0.size := ⟨_, rfl⟩
  rw [← g80] at A80 D80 st80
  have Z81 : n0 ≤ h80.size := Nat.le_trans Z0 E80.1
  have K0_81 : Keep h0 h80 [] := (Keep.refl h0 []).ext E80
  have O81 : Old Z n0 h80 := X00.ext E80
  have lo_b80 : h0.size ≤ b80 := Nat.le_of_eq g80.symm
  have g_b80 : n0 ≤ b80 := Nat.le_trans Z0 lo_b80
  have l0_b80 : h0.size ≤ b80 := Nat.le_trans (Keep.refl h0 []).1 lo_b80
  have F_requestCount_b80 : Fld Z h80 b80 "com/example/cistern/cistern/PoolState" "requestCount" "J" (.long (0 : Int64)) := D80 (Or.inr (W 24 rfl)) (ty := .long) (by decide)
  have F_averageRequestTime_b80 : Fld Z h80 b80 "com/example/cistern/cistern/PoolState" "averageRequestTime" "J" (.long (0 : Int64)) := D80 (Or.inr (W 31 rfl)) (ty := .long) (by decide)
  have F_hadToWaitCount_b80 : Fld Z h80 b80 "com/example/cistern/cistern/PoolState" "hadToWaitCount" "J" (.long (0 : Int64)) := D80 (Or.inr (W 35 rfl)) (ty := .long) (by decide)
  have F_averageWaitTime_b80 : Fld Z h80 b80 "com/example/cistern/cistern/PoolState" "averageWaitTime" "J" (.long (0 : Int64)) := D80 (Or.inr (W 39 rfl)) (ty := .long) (by decide)
  have F_badConnectionCount_b80 : Fld Z h80 b80 "com/example/cistern/cistern/PoolState" "badConnectionCount" "J" (.long (0 : Int64)) := D80 (Or.inr (W 43 rfl)) (ty := .long) (by decide)
  have F_claimedOverdueConnectionCount_b80 : Fld Z h80 b80 "com/example/cistern/cistern/PoolState" "claimedOverdueConnectionCount" "J" (.long (0 : Int64)) := D80 (Or.inr (W 47 rfl)) (ty := .long) (by decide)
  have F_averageOverdueCheckoutTime_b80 : Fld Z h80 b80 "com/example/cistern/cistern/PoolState" "averageOverdueCheckoutTime" "J" (.long (0 : Int64)) := D80 (Or.inr (W 51 rfl)) (ty := .long) (by decide)
  have F_averageCheckoutTime_b80 : Fld Z h80 b80 "com/example/cistern/cistern/PoolState" "averageCheckoutTime" "J" (.long (0 : Int64)) := D80 (Or.inr (W 57 rfl)) (ty := .long) (by decide)
  have F_idleConnectionCount_b80 : Fld Z h80 b80 "com/example/cistern/cistern/PoolState" "idleConnectionCount" "I" (.int (0 : Int32)) := D80 (Or.inr (W 59 rfl)) (ty := .int) (by decide)
  have F_activeConnectionCount_b80 : Fld Z h80 b80 "com/example/cistern/cistern/PoolState" "activeConnectionCount" "I" (.int (0 : Int32)) := D80 (Or.inr (W 61 rfl)) (ty := .int) (by decide)
  have F_waitingCount_b80 : Fld Z h80 b80 "com/example/cistern/cistern/PoolState" "waitingCount" "I" (.int (0 : Int32)) := D80 (Or.inr (W 63 rfl)) (ty := .int) (by decide)
  have F_connectionsOpened_b80 : Fld Z h80 b80 "com/example/cistern/cistern/PoolState" "connectionsOpened" "J" (.long (0 : Int64)) := D80 (Or.inr (W 67 rfl)) (ty := .long) (by decide)
  have f83 := (F_requestCount_a2.ext E80)
  have f84 := (F_requestNanos_a2.ext E80)
  have f85 := (F_hadToWaitCount_a2.ext E80)
  have f86 := (F_waitNanos_a2.ext E80)
  have f87 := (F_badConnectionCount_a2.ext E80)
  have f88 := (F_claimedOverdueCount_a2.ext E80)
  have f89 := (F_overdueCheckoutNanos_a2.ext E80)
  have f90 := (F_checkoutCount_a2.ext E80)
  have f91 := (F_checkoutNanos_a2.ext E80)
  have f92 := (F_connectionsOpened_a2.ext E80)
  -- pc 8: com/example/cistern/cistern/PoolState.<init>
  obtain ⟨_, _, ⟨T82, L82, k82, n82⟩, -, X82, ⟨Lc82, hQ82, l82, y82, z82⟩, st82⟩ := X80.specialBackNest hx (y := y2) rfl hown (Cond.methodLinkNest_wide hZ (W 17 rfl) :) (mvT hZ (W 18 rfl)) (mvT hZ (W 19 rfl)) (by decide) (backOf (W := 1) (rmpsi l Z a0 ns hG [] b80 a2 p1 p2 p3 c0 c1 c2 c3 c4 c5 c6 c7 c8 c9 h80 n0 Z81 O81 A80 F_requestCount_b80 F_averageRequestTime_b80 F_hadToWaitCount_b80 F_averageWaitTime_b80 F_badConnectionCount_b80 F_claimedOverdueConnectionCount_b80 F_averageOverdueCheckoutTime_b80 F_averageCheckoutTime_b80 F_idleConnectionCount_b80 F_activeConnectionCount_b80 F_waitingCount_b80 F_connectionsOpened_b80 f83 f84 f85 f86 f87 f88 f89 f90 f91 f92 (Nat.ne_of_lt (Nat.lt_of_lt_of_le F_requestCount_a2.lt lo_b80)) g_b80) hZ (W 19 rfl) (W 16 rfl) (by decide) (by decide)) (g := (mkF m 8 #[.val (.ref a2), .val (.int p1), .val (.int p2), .val (.int p3)] [(.int p3), (.int p2), (.int p1), (.ref a2), (.ref b80), (.ref b80)])) rfl (by rw [hml]; rfl) (Steps.refl _) (a := b80) (argsL := [(.ref a2), (.int p1), (.int p2), (.int p3)]) (rest := [(.ref b80)]) (lenOf pd__Lcom_example_cistern_cistern_PoolState_Counters_III_V rfl) rfl (by show 2 * 0 + _ ≤ _; exact Nat.le_of_eq rfl) (hb hby dx_prog_17_method_9_code_8) (fun _ _ => ⟨rfl, e80, (by decide : 1 + 0 ≤ _), (by decide : 12 + 0 ≤ _)⟩)
  dsimp only [Pt.U, Pt.locs, Pt.cells, Pt.slots] at X82 l82 y82 z82 st82 hQ82
  subst l82 y82 z82
  obtain ⟨rfl, N82q, K82, f82_0, f82_1, f82_2, f82_3, f82_4, f82_5, f82_6, f82_7, f82_8, f82_9, f82_10, f82_11, f82_12⟩ := hQ82
  have N82 := Fr.app N0 N82q
  have Z93 : n0 ≤ T82.heap.size := Nat.le_trans Z81 K82.1
  have K0_93 : Keep h0 T82.heap [] := K0_81.trans K82 (allS (Or.inr l0_b80) all0)
  have O93 : Old Z n0 T82.heap := O81.keep K82 (allS g_b80 all0)
  obtain ⟨fs, hr, hrun, hended, hW, hsame⟩ := X82.leave (v := some (.ref b80)) (fun h => by rw [Bd.returns] at h; cases h)
  refine ⟨_, _, pre0 _ ?_, hrun, hended, _, _, rfl, ?_, ⟨_, rfl⟩, hW, hsame.mono (Nat.le_of_ble_eq_true rfl) (Nat.le_of_ble_eq_true rfl)⟩
  · show Steps p.tables e below (s₁.setTop (mkF m 0 #[.val (.ref a2), .val (.int p1), .val (.int p2), .val (.int p3)] [])) _
    refine st80 _ ?_
    show Steps p.tables e below (T80.setTop (mkF m 3 #[.val (.ref a2), .val (.int p1), .val (.int p2), .val (.int p3)] [(.ref b80)])) _
    refine XS.dup X80.here hx rfl (hb hby dx_prog_17_method_9_code_3) rfl rfl ?_
    show Steps p.tables e below (T80.setTop (mkF m 4 #[.val (.ref a2), .val (.int p1), .val (.int p2), .val (.int p3)] [(.ref b80), (.ref b80)])) _
    refine XS.aloadN X80.here hx rfl (hb hby dx_prog_17_method_9_code_4) rfl rfl ?_
    show Steps p.tables e below (T80.setTop (mkF m 5 #[.val (.ref a2), .val (.int p1), .val (.int p2), .val (.int p3)] [(.ref a2), (.ref b80), (.ref b80)])) _
    refine XS.iloadN X80.here hx rfl (hb hby dx_prog_17_method_9_code_5) rfl ?_
    show Steps p.tables e below (T80.setTop (mkF m 6 #[.val (.ref a2), .val (.int p1), .val (.int p2), .val (.int p3)] [(.int p1), (.ref a2), (.ref b80), (.ref b80)])) _
    refine XS.iloadN X80.here hx rfl (hb hby dx_prog_17_method_9_code_6) rfl ?_
    show Steps p.tables e below (T80.setTop (mkF m 7 #[.val (.ref a2), .val (.int p1), .val (.int p2), .val (.int p3)] [(.int p2), (.int p1), (.ref a2), (.ref b80), (.ref b80)])) _
    refine XS.iloadN X80.here hx rfl (hb hby dx_prog_17_method_9_code_7) rfl ?_
    show Steps p.tables e below (T80.setTop (mkF m 8 #[.val (.ref a2), .val (.int p1), .val (.int p2), .val (.int p3)] [(.int p3), (.int p2), (.int p1), (.ref a2), (.ref b80), (.ref b80)])) _
    refine st82.trans ?_
    show Steps p.tables e below (T82.setTop (mkF m 11 #[.val (.ref a2), .val (.int p1), .val (.int p2), .val (.int p3)] [(.ref b80)])) _
    exact retOut X82 hx Bd.returns rfl (Or.inr (Or.inr (Or.inr (Or.inr ⟨rfl, rfl, rfl⟩)))) (hb hby dx_prog_17_method_9_code_11) hr
  · show Qsnap Z ns a2 p1 p2 p3 c0 c1 c2 c3 c4 c5 c6 c7 c8 c9 h0 n0 _ T82.heap _
    exact ⟨b80, rfl, N82, K0_93, l0_b80, f82_0, f82_1, f82_2, f82_3, f82_4, f82_5, f82_6, f82_7, f82_8, f82_9, f82_10, f82_11, f82_12⟩
theorem dx_prog_17_method_1_code_0 : decode prog_17_method_1_code 0 = .ok (.aload_n 0, 1) := by decide +kernel
theorem dx_prog_17_method_1_code_1 : decode prog_17_method_1_code 1 = .ok (.invokespecial 1, 3) := by decide +kernel
theorem dx_prog_17_method_1_code_4 : decode prog_17_method_1_code 4 = .ok (.return_, 1) := by decide +kernel
def Qcti (Z : State) (ns : Addr) (a2 : Addr) (h0 : Heap) (n0 : Nat) (v : Option Value) (h : Heap) (L : List Loc) : Prop := v = none ∧ Fr n0 L ∧ h = h0
theorem ef_prog_17_method_1_code_R (m : MethodId) (x0 : Addr) : entryFrame m #[(.ref x0)] 1 = mkF m 0 #[.val (.ref x0)] [] := by first | (simp [entryFrame, mkF, argsToLocals, Value.category]; done) | rfl
abbrev y4 : MethodName := ⟨"com/example/cistern/cistern/PoolState$Counters", "<init>", "()V"⟩
set_option maxRecDepth 65536 in
set_option maxHeartbeats 40000000 in
theorem rmcti (l : Launch) (Z : State) (a0 : Array Value) (ns : Addr) (hG : Glob Z a0 ns) (ws : List Jvm.Cond) (a2 : Addr) (h0 : Heap) (n0 : Nat) (Z0 : n0 ≤ h0.size) (X00 : Old Z n0 h0) :
    MetFree l y4 (head1 (Jvm.Cond.code y4 prog_17_method_1_code 1 none :: ws) ({ frames := 1, cells := 0, slots := 0, locals := 12 } : Room)) (fun a U => a = #[(.ref a2)] ∧ Z.Warmed39 U.vm ∧ U.heap = h0) (fun _ _ _ _ _ => True) (fun _ U o U' => ∃ v L, o = .returned v ∧ Qcti Z ns a2 h0 n0 v U'.heap L ∧ FrameEnd U o U' L ({ frames := 1, cells := 0, slots := 0, locals := 12 } : Room).cells ({ frames := 1, cells := 0, slots := 0, locals := 12 } : Room).slots) := by
  obtain ⟨hw, O_ns, O_ens, O_scale, O_ratio⟩ := id hG
  have W : ∀ (i : Nat) {d : Jvm.Cond}, tables_1[i]? = some d → d.before a0 Z = true := fun i d h => hw d (List.mem_of_getElem? h)
  refine MetFree.of_bodySF (plainFor_of_name pn_com_example_cistern_cistern_PoolState_Counters) hisR ?_
  intro p e s m args below meth c s₁ Bd hml0 hP hK
  obtain ⟨rfl, hZ, hh⟩ := hP
  have hx := Bd.exec
  have hby := Bd.bytes
  have hml : c.maxLocals = 1 := hml0
  have hown : s.vm.findClass "com/example/cistern/cistern/PoolState$Counters" = some m.cls := findClass_of_methodNamed Bd.named
  have hnm := (name_of_methodNamed Bd.named Bd.method).1
  have X0 : Stand p l e ({ frames := 1, cells := 0, slots := 0, locals := 12 } : Room) s m #[(.ref a2)] below meth c s₁ [] 0 0 := Stand.of_body Bd
  have e0 : s₁.heap = h0 := by rw [← hh, Bd.state]; rfl
  have N0 := Fr.nil n0
  have pre0 : ∀ t, Steps p.tables e below (s₁.setTop (mkF m 0 #[.val (.ref a2)] [])) t → Steps p.tables e below (s₁.setTop (entryFrame m #[(.ref a2)] 1)) t := fun t kk_ => castTop (ef_prog_17_method_1_code_R m a2) kk_
  obtain ⟨T94, X94, e94, st94⟩ := initO X0 hx hZ hown (W 6 rfl) (W 7 rfl) (W 8 rfl) e0 (g := (mkF m 1 #[.val (.ref a2)] [(.ref a2)])) rfl (by rw [hml]; rfl) rfl (hb hby dx_prog_17_method_1_code_1) (by decide) (W := 0) (by show 2 * 0 + _ ≤ _; exact Nat.le_of_eq rfl) (by decide)
  obtain ⟨fs, hr, hrun, hended, hW, hsame⟩ := X94.leave (v := none) (fun _ => rfl)
  refine ⟨_, _, pre0 _ ?_, hrun, hended, _, _, rfl, ?_, ⟨_, rfl⟩, hW, hsame.mono (Nat.le_of_ble_eq_true rfl) (Nat.le_of_ble_eq_true rfl)⟩
  · show Steps p.tables e below (s₁.setTop (mkF m 0 #[.val (.ref a2)] [])) _
    refine XS.aloadN X0.here hx rfl (hb hby dx_prog_17_method_1_code_0) rfl rfl ?_
    show Steps p.tables e below (s₁.setTop (mkF m 1 #[.val (.ref a2)] [(.ref a2)])) _
    refine st94 _ ?_
    show Steps p.tables e below (T94.setTop (mkF m 4 #[.val (.ref a2)] [])) _
    exact X94.returnOut hx Bd.returns (hb hby dx_prog_17_method_1_code_4) hr
  · show Qcti Z ns a2 h0 n0 _ T94.heap _
    rw [e94]
    exact ⟨rfl, N0, rfl⟩
theorem dx_prog_16_method_3_code_0 : decode prog_16_method_3_code 0 = .ok (.aload_n 0, 1) := by decide +kernel
theorem dx_prog_16_method_3_code_1 : decode prog_16_method_3_code 1 = .ok (.getfield 13, 3) := by decide +kernel
theorem dx_prog_16_method_3_code_4 : decode prog_16_method_3_code 4 = .ok (.lreturn, 1) := by decide +kernel
def QG_requestCount (Z : State) (ns : Addr) (a1 : Addr) (q : Int64) (h0 : Heap) (n0 : Nat) (v : Option Value) (h : Heap) (L : List Loc) : Prop := v = some (.long q) ∧ Fr n0 L ∧ h = h0
theorem ef_prog_16_method_3_code_R (m : MethodId) (x0 : Addr) : entryFrame m #[(.ref x0)] 1 = mkF m 0 #[.val (.ref x0)] [] := by first | (simp [entryFrame, mkF, argsToLocals, Value.category]; done) | rfl
abbrev y5 : MethodName := ⟨"com/example/cistern/cistern/PoolState", "getRequestCount", "()J"⟩
set_option maxRecDepth 65536 in
set_option maxHeartbeats 40000000 in
theorem rmG_requestCount (l : Launch) (Z : State) (a0 : Array Value) (ns : Addr) (hG : Glob Z a0 ns) (ws : List Jvm.Cond) (a1 : Addr) (q : Int64) (h0 : Heap) (n0 : Nat) (Z0 : n0 ≤ h0.size) (X00 : Old Z n0 h0) (F_requestCount_a1 : Fld Z h0 a1 "com/example/cistern/cistern/PoolState" "requestCount" "J" (.long q)) :
    MetFree l y5 (head1 (Jvm.Cond.code y5 prog_16_method_3_code 1 (some .long) :: ws) ({ frames := 0, cells := 0, slots := 0, locals := 0 } : Room)) (fun a U => a = #[(.ref a1)] ∧ Z.Warmed39 U.vm ∧ U.heap = h0) (fun _ _ _ _ _ => True) (fun _ U o U' => ∃ v L, o = .returned v ∧ QG_requestCount Z ns a1 q h0 n0 v U'.heap L ∧ FrameEnd U o U' L ({ frames := 0, cells := 0, slots := 0, locals := 0 } : Room).cells ({ frames := 0, cells := 0, slots := 0, locals := 0 } : Room).slots) := by
  obtain ⟨hw, O_ns, O_ens, O_scale, O_ratio⟩ := id hG
  have W : ∀ (i : Nat) {d : Jvm.Cond}, tables_1[i]? = some d → d.before a0 Z = true := fun i d h => hw d (List.mem_of_getElem? h)
  refine MetFree.of_bodySF (plainFor_of_name pn_com_example_cistern_cistern_PoolState) hisR ?_
  intro p e s m args below meth c s₁ Bd hml0 hP hK
  obtain ⟨rfl, hZ, hh⟩ := hP
  have hx := Bd.exec
  have hby := Bd.bytes
  have hml : c.maxLocals = 1 := hml0
  have hown : s.vm.findClass "com/example/cistern/cistern/PoolState" = some m.cls := findClass_of_methodNamed Bd.named
  have hnm := (name_of_methodNamed Bd.named Bd.method).1
  have X0 : Stand p l e ({ frames := 0, cells := 0, slots := 0, locals := 0 } : Room) s m #[(.ref a1)] below meth c s₁ [] 0 0 := Stand.of_body Bd
  have e0 : s₁.heap = h0 := by rw [← hh, Bd.state]; rfl
  have N0 := Fr.nil n0
  have pre0 : ∀ t, Steps p.tables e below (s₁.setTop (mkF m 0 #[.val (.ref a1)] [])) t → Steps p.tables e below (s₁.setTop (entryFrame m #[(.ref a1)] 1)) t := fun t kk_ => castTop (ef_prog_16_method_3_code_R m a1) kk_
  obtain ⟨T95, X95, e95, st95⟩ := getF X0 hx hZ hown (host := "") (Or.inl (W 23 rfl)) Via.refl e0 F_requestCount_a1 (g := (mkF m 1 #[.val (.ref a1)] [(.ref a1)])) rfl rfl (hb hby dx_prog_16_method_3_code_1)
  obtain ⟨fs, hr, hrun, hended, hW, hsame⟩ := X95.leave (v := some (.long q)) (fun h => by rw [Bd.returns] at h; cases h)
  refine ⟨_, _, pre0 _ ?_, hrun, hended, _, _, rfl, ?_, ⟨_, rfl⟩, hW, hsame.mono (Nat.le_of_ble_eq_true rfl) (Nat.le_of_ble_eq_true rfl)⟩
  · show Steps p.tables e below (s₁.setTop (mkF m 0 #[.val (.ref a1)] [])) _
    refine XS.aloadN X0.here hx rfl (hb hby dx_prog_16_method_3_code_0) rfl rfl ?_
    show Steps p.tables e below (s₁.setTop (mkF m 1 #[.val (.ref a1)] [(.ref a1)])) _
    refine st95 _ ?_
    show Steps p.tables e below (T95.setTop (mkF m 4 #[.val (.ref a1)] [(.long q)])) _
    exact retOut X95 hx Bd.returns rfl (Or.inr (Or.inl ⟨rfl, rfl, _, rfl⟩)) (hb hby dx_prog_16_method_3_code_4) hr
  · show QG_requestCount Z ns a1 q h0 n0 _ T95.heap _
    rw [e95]
    exact ⟨rfl, N0, rfl⟩
theorem dx_prog_16_method_5_code_0 : decode prog_16_method_5_code 0 = .ok (.aload_n 0, 1) := by decide +kernel
theorem dx_prog_16_method_5_code_1 : decode prog_16_method_5_code 1 = .ok (.getfield 29, 3) := by decide +kernel
theorem dx_prog_16_method_5_code_4 : decode prog_16_method_5_code 4 = .ok (.lreturn, 1) := by decide +kernel
def QG_hadToWaitCount (Z : State) (ns : Addr) (a1 : Addr) (q : Int64) (h0 : Heap) (n0 : Nat) (v : Option Value) (h : Heap) (L : List Loc) : Prop := v = some (.long q) ∧ Fr n0 L ∧ h = h0
theorem ef_prog_16_method_5_code_R (m : MethodId) (x0 : Addr) : entryFrame m #[(.ref x0)] 1 = mkF m 0 #[.val (.ref x0)] [] := by first | (simp [entryFrame, mkF, argsToLocals, Value.category]; done) | rfl
abbrev y6 : MethodName := ⟨"com/example/cistern/cistern/PoolState", "getHadToWaitCount", "()J"⟩
set_option maxRecDepth 65536 in
set_option maxHeartbeats 40000000 in
theorem rmG_hadToWaitCount (l : Launch) (Z : State) (a0 : Array Value) (ns : Addr) (hG : Glob Z a0 ns) (ws : List Jvm.Cond) (a1 : Addr) (q : Int64) (h0 : Heap) (n0 : Nat) (Z0 : n0 ≤ h0.size) (X00 : Old Z n0 h0) (F_hadToWaitCount_a1 : Fld Z h0 a1 "com/example/cistern/cistern/PoolState" "hadToWaitCount" "J" (.long q)) :
    MetFree l y6 (head1 (Jvm.Cond.code y6 prog_16_method_5_code 1 (some .long) :: ws) ({ frames := 0, cells := 0, slots := 0, locals := 0 } : Room)) (fun a U => a = #[(.ref a1)] ∧ Z.Warmed39 U.vm ∧ U.heap = h0) (fun _ _ _ _ _ => True) (fun _ U o U' => ∃ v L, o = .returned v ∧ QG_hadToWaitCount Z ns a1 q h0 n0 v U'.heap L ∧ FrameEnd U o U' L ({ frames := 0, cells := 0, slots := 0, locals := 0 } : Room).cells ({ frames := 0, cells := 0, slots := 0, locals := 0 } : Room).slots) := by
  obtain ⟨hw, O_ns, O_ens, O_scale, O_ratio⟩ := id hG
  have W : ∀ (i : Nat) {d : Jvm.Cond}, tables_1[i]? = some d → d.before a0 Z = true := fun i d h => hw d (List.mem_of_getElem? h)
  refine MetFree.of_bodySF (plainFor_of_name pn_com_example_cistern_cistern_PoolState) hisR ?_
  intro p e s m args below meth c s₁ Bd hml0 hP hK
  obtain ⟨rfl, hZ, hh⟩ := hP
  have hx := Bd.exec
  have hby := Bd.bytes
  have hml : c.maxLocals = 1 := hml0
  have hown : s.vm.findClass "com/example/cistern/cistern/PoolState" = some m.cls := findClass_of_methodNamed Bd.named
  have hnm := (name_of_methodNamed Bd.named Bd.method).1
  have X0 : Stand p l e ({ frames := 0, cells := 0, slots := 0, locals := 0 } : Room) s m #[(.ref a1)] below meth c s₁ [] 0 0 := Stand.of_body Bd
  have e0 : s₁.heap = h0 := by rw [← hh, Bd.state]; rfl
  have N0 := Fr.nil n0
  have pre0 : ∀ t, Steps p.tables e below (s₁.setTop (mkF m 0 #[.val (.ref a1)] [])) t → Steps p.tables e below (s₁.setTop (entryFrame m #[(.ref a1)] 1)) t := fun t kk_ => castTop (ef_prog_16_method_5_code_R m a1) kk_
  obtain ⟨T96, X96, e96, st96⟩ := getF X0 hx hZ hown (host := "") (Or.inl (W 34 rfl)) Via.refl e0 F_hadToWaitCount_a1 (g := (mkF m 1 #[.val (.ref a1)] [(.ref a1)])) rfl rfl (hb hby dx_prog_16_method_5_code_1)
  obtain ⟨fs, hr, hrun, hended, hW, hsame⟩ := X96.leave (v := some (.long q)) (fun h => by rw [Bd.returns] at h; cases h)
  refine ⟨_, _, pre0 _ ?_, hrun, hended, _, _, rfl, ?_, ⟨_, rfl⟩, hW, hsame.mono (Nat.le_of_ble_eq_true rfl) (Nat.le_of_ble_eq_true rfl)⟩
  · show Steps p.tables e below (s₁.setTop (mkF m 0 #[.val (.ref a1)] [])) _
    refine XS.aloadN X0.here hx rfl (hb hby dx_prog_16_method_5_code_0) rfl rfl ?_
    show Steps p.tables e below (s₁.setTop (mkF m 1 #[.val (.ref a1)] [(.ref a1)])) _
    refine st96 _ ?_
    show Steps p.tables e below (T96.setTop (mkF m 4 #[.val (.ref a1)] [(.long q)])) _
    exact retOut X96 hx Bd.returns rfl (Or.inr (Or.inl ⟨rfl, rfl, _, rfl⟩)) (hb hby dx_prog_16_method_5_code_4) hr
  · show QG_hadToWaitCount Z ns a1 q h0 n0 _ T96.heap _
    rw [e96]
    exact ⟨rfl, N0, rfl⟩
theorem dx_prog_16_method_8_code_0 : decode prog_16_method_8_code 0 = .ok (.aload_n 0, 1) := by decide +kernel
theorem dx_prog_16_method_8_code_1 : decode prog_16_method_8_code 1 = .ok (.getfield 43, 3) := by decide +kernel
theorem dx_prog_16_method_8_code_4 : decode prog_16_method_8_code 4 = .ok (.lreturn, 1) := by decide +kernel
def QG_claimedOverdueConnectionCount (Z : State) (ns : Addr) (a1 : Addr) (q : Int64) (h0 : Heap) (n0 : Nat) (v : Option Value) (h : Heap) (L : List Loc) : Prop := v = some (.long q) ∧ Fr n0 L ∧ h = h0
theorem ef_prog_16_method_8_code_R (m : MethodId) (x0 : Addr) : entryFrame m #[(.ref x0)] 1 = mkF m 0 #[.val (.ref x0)] [] := by first | (simp [entryFrame, mkF, argsToLocals, Value.category]; done) | rfl
abbrev y7 : MethodName := ⟨"com/example/cistern/cistern/PoolState", "getClaimedOverdueConnectionCount", "()J"⟩
set_option maxRecDepth 65536 in
set_option maxHeartbeats 40000000 in
theorem rmG_claimedOverdueConnectionCount (l : Launch) (Z : State) (a0 : Array Value) (ns : Addr) (hG : Glob Z a0 ns) (ws : List Jvm.Cond) (a1 : Addr) (q : Int64) (h0 : Heap) (n0 : Nat) (Z0 : n0 ≤ h0.size) (X00 : Old Z n0 h0) (F_claimedOverdueConnectionCount_a1 : Fld Z h0 a1 "com/example/cistern/cistern/PoolState" "claimedOverdueConnectionCount" "J" (.long q)) :
    MetFree l y7 (head1 (Jvm.Cond.code y7 prog_16_method_8_code 1 (some .long) :: ws) ({ frames := 0, cells := 0, slots := 0, locals := 0 } : Room)) (fun a U => a = #[(.ref a1)] ∧ Z.Warmed39 U.vm ∧ U.heap = h0) (fun _ _ _ _ _ => True) (fun _ U o U' => ∃ v L, o = .returned v ∧ QG_claimedOverdueConnectionCount Z ns a1 q h0 n0 v U'.heap L ∧ FrameEnd U o U' L ({ frames := 0, cells := 0, slots := 0, locals := 0 } : Room).cells ({ frames := 0, cells := 0, slots := 0, locals := 0 } : Room).slots) := by
  obtain ⟨hw, O_ns, O_ens, O_scale, O_ratio⟩ := id hG
  have W : ∀ (i : Nat) {d : Jvm.Cond}, tables_1[i]? = some d → d.before a0 Z = true := fun i d h => hw d (List.mem_of_getElem? h)
  refine MetFree.of_bodySF (plainFor_of_name pn_com_example_cistern_cistern_PoolState) hisR ?_
  intro p e s m args below meth c s₁ Bd hml0 hP hK
  obtain ⟨rfl, hZ, hh⟩ := hP
  have hx := Bd.exec
  have hby := Bd.bytes
  have hml : c.maxLocals = 1 := hml0
  have hown : s.vm.findClass "com/example/cistern/cistern/PoolState" = some m.cls := findClass_of_methodNamed Bd.named
  have hnm := (name_of_methodNamed Bd.named Bd.method).1
  have X0 : Stand p l e ({ frames := 0, cells := 0, slots := 0, locals := 0 } : Room) s m #[(.ref a1)] below meth c s₁ [] 0 0 := Stand.of_body Bd
  have e0 : s₁.heap = h0 := by rw [← hh, Bd.state]; rfl
  have N0 := Fr.nil n0
  have pre0 : ∀ t, Steps p.tables e below (s₁.setTop (mkF m 0 #[.val (.ref a1)] [])) t → Steps p.tables e below (s₁.setTop (entryFrame m #[(.ref a1)] 1)) t := fun t kk_ => castTop (ef_prog_16_method_8_code_R m a1) kk_
  obtain ⟨T97, X97, e97, st97⟩ := getF X0 hx hZ hown (host := "") (Or.inl (W 46 rfl)) Via.refl e0 F_claimedOverdueConnectionCount_a1 (g := (mkF m 1 #[.val (.ref a1)] [(.ref a1)])) rfl rfl (hb hby dx_prog_16_method_8_code_1)
  obtain ⟨fs, hr, hrun, hended, hW, hsame⟩ := X97.leave (v := some (.long q)) (fun h => by rw [Bd.returns] at h; cases h)
  refine ⟨_, _, pre0 _ ?_, hrun, hended, _, _, rfl, ?_, ⟨_, rfl⟩, hW, hsame.mono (Nat.le_of_ble_eq_true rfl) (Nat.le_of_ble_eq_true rfl)⟩
  · show Steps p.tables e below (s₁.setTop (mkF m 0 #[.val (.ref a1)] [])) _
    refine XS.aloadN X0.here hx rfl (hb hby dx_prog_16_method_8_code_0) rfl rfl ?_
    show Steps p.tables e below (s₁.setTop (mkF m 1 #[.val (.ref a1)] [(.ref a1)])) _
    refine st97 _ ?_
    show Steps p.tables e below (T97.setTop (mkF m 4 #[.val (.ref a1)] [(.long q)])) _
    exact retOut X97 hx Bd.returns rfl (Or.inr (Or.inl ⟨rfl, rfl, _, rfl⟩)) (hb hby dx_prog_16_method_8_code_4) hr
  · show QG_claimedOverdueConnectionCount Z ns a1 q h0 n0 _ T97.heap _
    rw [e97]
    exact ⟨rfl, N0, rfl⟩
theorem dx_prog_16_method_10_code_0 : decode prog_16_method_10_code 0 = .ok (.aload_n 0, 1) := by decide +kernel
theorem dx_prog_16_method_10_code_1 : decode prog_16_method_10_code 1 = .ok (.getfield 58, 3) := by decide +kernel
theorem dx_prog_16_method_10_code_4 : decode prog_16_method_10_code 4 = .ok (.lreturn, 1) := by decide +kernel
def QG_averageCheckoutTime (Z : State) (ns : Addr) (a1 : Addr) (q : Int64) (h0 : Heap) (n0 : Nat) (v : Option Value) (h : Heap) (L : List Loc) : Prop := v = some (.long q) ∧ Fr n0 L ∧ h = h0
theorem ef_prog_16_method_10_code_R (m : MethodId) (x0 : Addr) : entryFrame m #[(.ref x0)] 1 = mkF m 0 #[.val (.ref x0)] [] := by first | (simp [entryFrame, mkF, argsToLocals, Value.category]; done) | rfl
abbrev y8 : MethodName := ⟨"com/example/cistern/cistern/PoolState", "getAverageCheckoutTime", "()J"⟩
set_option maxRecDepth 65536 in
set_option maxHeartbeats 40000000 in
theorem rmG_averageCheckoutTime (l : Launch) (Z : State) (a0 : Array Value) (ns : Addr) (hG : Glob Z a0 ns) (ws : List Jvm.Cond) (a1 : Addr) (q : Int64) (h0 : Heap) (n0 : Nat) (Z0 : n0 ≤ h0.size) (X00 : Old Z n0 h0) (F_averageCheckoutTime_a1 : Fld Z h0 a1 "com/example/cistern/cistern/PoolState" "averageCheckoutTime" "J" (.long q)) :
    MetFree l y8 (head1 (Jvm.Cond.code y8 prog_16_method_10_code 1 (some .long) :: ws) ({ frames := 0, cells := 0, slots := 0, locals := 0 } : Room)) (fun a U => a = #[(.ref a1)] ∧ Z.Warmed39 U.vm ∧ U.heap = h0) (fun _ _ _ _ _ => True) (fun _ U o U' => ∃ v L, o = .returned v ∧ QG_averageCheckoutTime Z ns a1 q h0 n0 v U'.heap L ∧ FrameEnd U o U' L ({ frames := 0, cells := 0, slots := 0, locals := 0 } : Room).cells ({ frames := 0, cells := 0, slots := 0, locals := 0 } : Room).slots) := by
  obtain ⟨hw, O_ns, O_ens, O_scale, O_ratio⟩ := id hG
  have W : ∀ (i : Nat) {d : Jvm.Cond}, tables_1[i]? = some d → d.before a0 Z = true := fun i d h => hw d (List.mem_of_getElem? h)
  refine MetFree.of_bodySF (plainFor_of_name pn_com_example_cistern_cistern_PoolState) hisR ?_
  intro p e s m args below meth c s₁ Bd hml0 hP hK
  obtain ⟨rfl, hZ, hh⟩ := hP
  have hx := Bd.exec
  have hby := Bd.bytes
  have hml : c.maxLocals = 1 := hml0
  have hown : s.vm.findClass "com/example/cistern/cistern/PoolState" = some m.cls := findClass_of_methodNamed Bd.named
  have hnm := (name_of_methodNamed Bd.named Bd.method).1
  have X0 : Stand p l e ({ frames := 0, cells := 0, slots := 0, locals := 0 } : Room) s m #[(.ref a1)] below meth c s₁ [] 0 0 := Stand.of_body Bd
  have e0 : s₁.heap = h0 := by rw [← hh, Bd.state]; rfl
  have N0 := Fr.nil n0
  have pre0 : ∀ t, Steps p.tables e below (s₁.setTop (mkF m 0 #[.val (.ref a1)] [])) t → Steps p.tables e below (s₁.setTop (entryFrame m #[(.ref a1)] 1)) t := fun t kk_ => castTop (ef_prog_16_method_10_code_R m a1) kk_
  obtain ⟨T98, X98, e98, st98⟩ := getF X0 hx hZ hown (host := "") (Or.inl (W 56 rfl)) Via.refl e0 F_averageCheckoutTime_a1 (g := (mkF m 1 #[.val (.ref a1)] [(.ref a1)])) rfl rfl (hb hby dx_prog_16_method_10_code_1)
  obtain ⟨fs, hr, hrun, hended, hW, hsame⟩ := X98.leave (v := some (.long q)) (fun h => by rw [Bd.returns] at h; cases h)
  refine ⟨_, _, pre0 _ ?_, hrun, hended, _, _, rfl, ?_, ⟨_, rfl⟩, hW, hsame.mono (Nat.le_of_ble_eq_true rfl) (Nat.le_of_ble_eq_true rfl)⟩
  · show Steps p.tables e below (s₁.setTop (mkF m 0 #[.val (.ref a1)] [])) _
    refine XS.aloadN X0.here hx rfl (hb hby dx_prog_16_method_10_code_0) rfl rfl ?_
    show Steps p.tables e below (s₁.setTop (mkF m 1 #[.val (.ref a1)] [(.ref a1)])) _
    refine st98 _ ?_
    show Steps p.tables e below (T98.setTop (mkF m 4 #[.val (.ref a1)] [(.long q)])) _
    exact retOut X98 hx Bd.returns rfl (Or.inr (Or.inl ⟨rfl, rfl, _, rfl⟩)) (hb hby dx_prog_16_method_10_code_4) hr
  · show QG_averageCheckoutTime Z ns a1 q h0 n0 _ T98.heap _
    rw [e98]
    exact ⟨rfl, N0, rfl⟩
theorem dx_prog_16_method_14_code_0 : decode prog_16_method_14_code 0 = .ok (.aload_n 0, 1) := by decide +kernel
theorem dx_prog_16_method_14_code_1 : decode prog_16_method_14_code 1 = .ok (.getfield 74, 3) := by decide +kernel
theorem dx_prog_16_method_14_code_4 : decode prog_16_method_14_code 4 = .ok (.lreturn, 1) := by decide +kernel
def QG_connectionsOpened (Z : State) (ns : Addr) (a1 : Addr) (q : Int64) (h0 : Heap) (n0 : Nat) (v : Option Value) (h : Heap) (L : List Loc) : Prop := v = some (.long q) ∧ Fr n0 L ∧ h = h0
theorem ef_prog_16_method_14_code_R (m : MethodId) (x0 : Addr) : entryFrame m #[(.ref x0)] 1 = mkF m 0 #[.val (.ref x0)] [] := by first | (simp [entryFrame, mkF, argsToLocals, Value.category]; done) | rfl
abbrev y9 : MethodName := ⟨"com/example/cistern/cistern/PoolState", "getConnectionsOpened", "()J"⟩
set_option maxRecDepth 65536 in
set_option maxHeartbeats 40000000 in
theorem rmG_connectionsOpened (l : Launch) (Z : State) (a0 : Array Value) (ns : Addr) (hG : Glob Z a0 ns) (ws : List Jvm.Cond) (a1 : Addr) (q : Int64) (h0 : Heap) (n0 : Nat) (Z0 : n0 ≤ h0.size) (X00 : Old Z n0 h0) (F_connectionsOpened_a1 : Fld Z h0 a1 "com/example/cistern/cistern/PoolState" "connectionsOpened" "J" (.long q)) :
    MetFree l y9 (head1 (Jvm.Cond.code y9 prog_16_method_14_code 1 (some .long) :: ws) ({ frames := 0, cells := 0, slots := 0, locals := 0 } : Room)) (fun a U => a = #[(.ref a1)] ∧ Z.Warmed39 U.vm ∧ U.heap = h0) (fun _ _ _ _ _ => True) (fun _ U o U' => ∃ v L, o = .returned v ∧ QG_connectionsOpened Z ns a1 q h0 n0 v U'.heap L ∧ FrameEnd U o U' L ({ frames := 0, cells := 0, slots := 0, locals := 0 } : Room).cells ({ frames := 0, cells := 0, slots := 0, locals := 0 } : Room).slots) := by
  obtain ⟨hw, O_ns, O_ens, O_scale, O_ratio⟩ := id hG
  have W : ∀ (i : Nat) {d : Jvm.Cond}, tables_1[i]? = some d → d.before a0 Z = true := fun i d h => hw d (List.mem_of_getElem? h)
  refine MetFree.of_bodySF (plainFor_of_name pn_com_example_cistern_cistern_PoolState) hisR ?_
  intro p e s m args below meth c s₁ Bd hml0 hP hK
  obtain ⟨rfl, hZ, hh⟩ := hP
  have hx := Bd.exec
  have hby := Bd.bytes
  have hml : c.maxLocals = 1 := hml0
  have hown : s.vm.findClass "com/example/cistern/cistern/PoolState" = some m.cls := findClass_of_methodNamed Bd.named
  have hnm := (name_of_methodNamed Bd.named Bd.method).1
  have X0 : Stand p l e ({ frames := 0, cells := 0, slots := 0, locals := 0 } : Room) s m #[(.ref a1)] below meth c s₁ [] 0 0 := Stand.of_body Bd
  have e0 : s₁.heap = h0 := by rw [← hh, Bd.state]; rfl
  have N0 := Fr.nil n0
  have pre0 : ∀ t, Steps p.tables e below (s₁.setTop (mkF m 0 #[.val (.ref a1)] [])) t → Steps p.tables e below (s₁.setTop (entryFrame m #[(.ref a1)] 1)) t := fun t kk_ => castTop (ef_prog_16_method_14_code_R m a1) kk_
  obtain ⟨T99, X99, e99, st99⟩ := getF X0 hx hZ hown (host := "") (Or.inl (W 66 rfl)) Via.refl e0 F_connectionsOpened_a1 (g := (mkF m 1 #[.val (.ref a1)] [(.ref a1)])) rfl rfl (hb hby dx_prog_16_method_14_code_1)
  obtain ⟨fs, hr, hrun, hended, hW, hsame⟩ := X99.leave (v := some (.long q)) (fun h => by rw [Bd.returns] at h; cases h)
  refine ⟨_, _, pre0 _ ?_, hrun, hended, _, _, rfl, ?_, ⟨_, rfl⟩, hW, hsame.mono (Nat.le_of_ble_eq_true rfl) (Nat.le_of_ble_eq_true rfl)⟩
  · show Steps p.tables e below (s₁.setTop (mkF m 0 #[.val (.ref a1)] [])) _
    refine XS.aloadN X0.here hx rfl (hb hby dx_prog_16_method_14_code_0) rfl rfl ?_
    show Steps p.tables e below (s₁.setTop (mkF m 1 #[.val (.ref a1)] [(.ref a1)])) _
    refine st99 _ ?_
    show Steps p.tables e below (T99.setTop (mkF m 4 #[.val (.ref a1)] [(.long q)])) _
    exact retOut X99 hx Bd.returns rfl (Or.inr (Or.inl ⟨rfl, rfl, _, rfl⟩)) (hb hby dx_prog_16_method_14_code_4) hr
  · show QG_connectionsOpened Z ns a1 q h0 n0 _ T99.heap _
    rw [e99]
    exact ⟨rfl, N0, rfl⟩
theorem dx_prog_17_method_6_code_0 : decode prog_17_method_6_code 0 = .ok (.aload_n 0, 1) := by decide +kernel
theorem dx_prog_17_method_6_code_1 : decode prog_17_method_6_code 1 = .ok (.dup, 1) := by decide +kernel
theorem dx_prog_17_method_6_code_2 : decode prog_17_method_6_code 2 = .ok (.getfield 28, 3) := by decide +kernel
theorem dx_prog_17_method_6_code_5 : decode prog_17_method_6_code 5 = .ok (.lconst 1, 1) := by decide +kernel
theorem dx_prog_17_method_6_code_6 : decode prog_17_method_6_code 6 = .ok (.ladd, 1) := by decide +kernel
theorem dx_prog_17_method_6_code_7 : decode prog_17_method_6_code 7 = .ok (.putfield 28, 3) := by decide +kernel
theorem dx_prog_17_method_6_code_10 : decode prog_17_method_6_code 10 = .ok (.aload_n 0, 1) := by decide +kernel
theorem dx_prog_17_method_6_code_11 : decode prog_17_method_6_code 11 = .ok (.dup, 1) := by decide +kernel
theorem dx_prog_17_method_6_code_12 : decode prog_17_method_6_code 12 = .ok (.getfield 31, 3) := by decide +kernel
theorem dx_prog_17_method_6_code_15 : decode prog_17_method_6_code 15 = .ok (.lload_n 1, 1) := by decide +kernel
theorem dx_prog_17_method_6_code_16 : decode prog_17_method_6_code 16 = .ok (.ladd, 1) := by decide +kernel
theorem dx_prog_17_method_6_code_17 : decode prog_17_method_6_code 17 = .ok (.putfield 31, 3) := by decide +kernel
theorem dx_prog_17_method_6_code_20 : decode prog_17_method_6_code 20 = .ok (.return_, 1) := by decide +kernel
def QcheckedIn (Z : State) (ns : Addr) (a2 : Addr) (q : Int64) (c0 : Int64) (c1 : Int64) (c2 : Int64) (c3 : Int64) (c4 : Int64) (c5 : Int64) (c6 : Int64) (c7 : Int64) (c8 : Int64) (c9 : Int64) (h0 : Heap) (n0 : Nat) (v : Option Value) (h : Heap) (L : List Loc) : Prop := v = none ∧ Fr n0 L ∧ Keep h0 h [a2] ∧ Exa Z h a2 "com/example/cistern/cistern/PoolState$Counters" ∧ Fld Z h a2 "com/example/cistern/cistern/PoolState$Counters" "requestCount" "J" (.long c0) ∧ Fld Z h a2 "com/example/cistern/cistern/PoolState$Counters" "requestNanos" "J" (.long c1) ∧ Fld Z h a2 "com/example/cistern/cistern/PoolState$Counters" "hadToWaitCount" "J" (.long c2) ∧ Fld Z h a2 "com/example/cistern/cistern/PoolState$Counters" "waitNanos" "J" (.long c3) ∧ Fld Z h a2 "com/example/cistern/cistern/PoolState$Counters" "badConnectionCount" "J" (.long c4) ∧ Fld Z h a2 "com/example/cistern/cistern/PoolState$Counters" "claimedOverdueCount" "J" (.long c5) ∧ Fld Z h a2 "com/example/cistern/cistern/PoolState$Counters" "overdueCheckoutNanos" "J" (.long c6) ∧ Fld Z h a2 "com/example/cistern/cistern/PoolState$Counters" "checkoutCount" "J" (.long (c7 + (1 : Int64))) ∧ Fld Z h a2 "com/example/cistern/cistern/PoolState$Counters" "checkoutNanos" "J" (.long (c8 + q)) ∧ Fld Z h a2 "com/example/cistern/cistern/PoolState$Counters" "connectionsOpened" "J" (.long c9)
theorem ef_prog_17_method_6_code_RJ (m : MethodId) (x0 : Addr) (x1 : Int64) : entryFrame m #[(.ref x0), (.long x1)] 3 = mkF m 0 #[.val (.ref x0), .val (.long x1), .second] [] := by first | (simp [entryFrame, mkF, argsToLocals, Value.category]; done) | rfl
abbrev y10 : MethodName := ⟨"com/example/cistern/cistern/PoolState$Counters", "checkedIn", "(J)V"⟩
set_option maxRecDepth 65536 in
set_option maxHeartbeats 40000000 in
theorem rmcheckedIn (l : Launch) (Z : State) (a0 : Array Value) (ns : Addr) (hG : Glob Z a0 ns) (ws : List Jvm.Cond) (a2 : Addr) (q : Int64) (c0 : Int64) (c1 : Int64) (c2 : Int64) (c3 : Int64) (c4 : Int64) (c5 : Int64) (c6 : Int64) (c7 : Int64) (c8 : Int64) (c9 : Int64) (h0 : Heap) (n0 : Nat) (Z0 : n0 ≤ h0.size) (X00 : Old Z n0 h0) (E_a2 : Exa Z h0 a2 "com/example/cistern/cistern/PoolState$Counters") (g_a2 : n0 ≤ a2) (F_requestCount_a2 : Fld Z h0 a2 "com/example/cistern/cistern/PoolState$Counters" "requestCount" "J" (.long c0)) (F_requestNanos_a2 : Fld Z h0 a2 "com/example/cistern/cistern/PoolState$Counters" "requestNanos" "J" (.long c1)) (F_hadToWaitCount_a2 : Fld Z h0 a2 "com/example/cistern/cistern/PoolState$Counters" "hadToWaitCount" "J" (.long c2)) (F_waitNanos_a2 : Fld Z h0 a2 "com/example/cistern/cistern/PoolState$Counters" "waitNanos" "J" (.long c3)) (F_badConnectionCount_a2 : Fld Z h0 a2 "com/example/cistern/cistern/PoolState$Counters" "badConnectionCount" "J" (.long c4)) (F_claimedOverdueCount_a2 : Fld Z h0 a2 "com/example/cistern/cistern/PoolState$Counters" "claimedOverdueCount" "J" (.long c5)) (F_overdueCheckoutNanos_a2 : Fld Z h0 a2 "com/example/cistern/cistern/PoolState$Counters" "overdueCheckoutNanos" "J" (.long c6)) (F_checkoutCount_a2 : Fld Z h0 a2 "com/example/cistern/cistern/PoolState$Counters" "checkoutCount" "J" (.long c7)) (F_checkoutNanos_a2 : Fld Z h0 a2 "com/example/cistern/cistern/PoolState$Counters" "checkoutNanos" "J" (.long c8)) (F_connectionsOpened_a2 : Fld Z h0 a2 "com/example/cistern/cistern/PoolState$Counters" "connectionsOpened" "J" (.long c9)) :
    MetFree l y10 (head1 (Jvm.Cond.code y10 prog_17_method_6_code 3 none :: ws) ({ frames := 0, cells := 0, slots := 0, locals := 0 } : Room)) (fun a U => a = #[(.ref a2), (.long q)] ∧ Z.Warmed39 U.vm ∧ U.heap = h0) (fun _ _ _ _ _ => True) (fun _ U o U' => ∃ v L, o = .returned v ∧ QcheckedIn Z ns a2 q c0 c1 c2 c3 c4 c5 c6 c7 c8 c9 h0 n0 v U'.heap L ∧ FrameEnd U o U' L ({ frames := 0, cells := 0, slots := 0, locals := 0 } : Room).cells ({ frames := 0, cells := 0, slots := 0, locals := 0 } : Room).slots) := by
  obtain ⟨hw, O_ns, O_ens, O_scale, O_ratio⟩ := id hG
  have W : ∀ (i : Nat) {d : Jvm.Cond}, tables_1[i]? = some d → d.before a0 Z = true := fun i d h => hw d (List.mem_of_getElem? h)
  refine MetFree.of_bodySF (plainFor_of_name pn_com_example_cistern_cistern_PoolState_Counters) hisR ?_
  intro p e s m args below meth c s₁ Bd hml0 hP hK
  obtain ⟨rfl, hZ, hh⟩ := hP
  have hx := Bd.exec
  have hby := Bd.bytes
  have hml : c.maxLocals = 3 := hml0
  have hown : s.vm.findClass "com/example/cistern/cistern/PoolState$Counters" = some m.cls := findClass_of_methodNamed Bd.named
  have hnm := (name_of_methodNamed Bd.named Bd.method).1
  have X0 : Stand p l e ({ frames := 0, cells := 0, slots := 0, locals := 0 } : Room) s m #[(.ref a2), (.long q)] below meth c s₁ [] 0 0 := Stand.of_body Bd
  have e0 : s₁.heap = h0 := by rw [← hh, Bd.state]; rfl
  have N0 := Fr.nil n0
  have pre0 : ∀ t, Steps p.tables e below (s₁.setTop (mkF m 0 #[.val (.ref a2), .val (.long q), .second] [])) t → Steps p.tables e below (s₁.setTop (entryFrame m #[(.ref a2), (.long q)] 3)) t := fun t kk_ => castTop (ef_prog_17_method_6_code_RJ m a2 q) kk_
  obtain ⟨T100, X100, e100, st100⟩ := getF X0 hx hZ hown (host := "") (Or.inl (W 98 rfl)) Via.refl e0 F_checkoutCount_a2 (g := (mkF m 2 #[.val (.ref a2), .val (.long q), .second] [(.ref a2), (.ref a2)])) rfl rfl (hb hby dx_prog_17_method_6_code_2)
  obtain ⟨T101, h101, X101, e101, W101, st101⟩ := putF X100 hx hZ hown (host := "") (Or.inl (W 98 rfl)) Via.refl e100 F_checkoutCount_a2 E_a2 (Or.inl (W 55 rfl)) (W 1 rfl) (ty := .long) (by decide) rfl rfl (g := (mkF m 7 #[.val (.ref a2), .val (.long q), .second] [(.long (c7 + (1 : Int64))), (.ref a2)])) rfl rfl (hb hby dx_prog_17_method_6_code_7)
  have Fw101 := F_checkoutCount_a2.same W101
  have Z102 : n0 ≤ h101.size := Nat.le_trans Z0 (Keep.of_wr W101).1
  have K0_102 : Keep h0 h101 [a2] := (Keep.refl h0 [a2]).wr W101 (Or.inl (List.mem_of_getElem? (i := 0) rfl))
  have O102 : Old Z n0 h101 := X00.wr W101 g_a2
  have N101 := Fr.snoc X101 N0 g_a2
  have f103 := (F_checkoutNanos_a2.other W101 (Or.inr (slot_ne (Or.inl (W 53 rfl)) (Or.inl (W 55 rfl)) (by decide) (t := .long) (t' := .long) (by decide) (by decide))))
  obtain ⟨T104, X104, e104, st104⟩ := getF X101 hx hZ hown (host := "") (Or.inl (W 99 rfl)) Via.refl e101 f103 (g := (mkF m 12 #[.val (.ref a2), .val (.long q), .second] [(.ref a2), (.ref a2)])) rfl rfl (hb hby dx_prog_17_method_6_code_12)
  have f105 := (E_a2.wr W101)
  obtain ⟨T106, h106, X106, e106, W106, st106⟩ := putF X104 hx hZ hown (host := "") (Or.inl (W 99 rfl)) Via.refl e104 f103 f105 (Or.inl (W 53 rfl)) (W 1 rfl) (ty := .long) (by decide) rfl rfl (g := (mkF m 17 #[.val (.ref a2), .val (.long q), .second] [(.long (c8 + q)), (.ref a2)])) rfl rfl (hb hby dx_prog_17_method_6_code_17)
  have Fw106 := f103.same W106
  have Z107 : n0 ≤ h106.size := Nat.le_trans Z102 (Keep.of_wr W106).1
  have K0_107 : Keep h0 h106 [a2] := K0_102.wr W106 (Or.inl (List.mem_of_getElem? (i := 0) rfl))
  have O107 : Old Z n0 h106 := O102.wr W106 g_a2
  have N106 := Fr.snoc X106 N101 g_a2
  have f108 := (f105.wr W106)
  have f109 := ((F_requestCount_a2.other W101 (Or.inr (slot_ne (Or.inl (W 22 rfl)) (Or.inl (W 55 rfl)) (by decide) (t := .long) (t' := .long) (by decide) (by decide)))).other W106 (Or.inr (slot_ne (Or.inl (W 22 rfl)) (Or.inl (W 53 rfl)) (by decide) (t := .long) (t' := .long) (by decide) (by decide))))
  have f110 := ((F_requestNanos_a2.other W101 (Or.inr (slot_ne (Or.inl (W 26 rfl)) (Or.inl (W 55 rfl)) (by decide) (t := .long) (t' := .long) (by decide) (by decide)))).other W106 (Or.inr (slot_ne (Or.inl (W 26 rfl)) (Or.inl (W 53 rfl)) (by decide) (t := .long) (t' := .long) (by decide) (by decide))))
  have f111 := ((F_hadToWaitCount_a2.other W101 (Or.inr (slot_ne (Or.inl (W 33 rfl)) (Or.inl (W 55 rfl)) (by decide) (t := .long) (t' := .long) (by decide) (by decide)))).other W106 (Or.inr (slot_ne (Or.inl (W 33 rfl)) (Or.inl (W 53 rfl)) (by decide) (t := .long) (t' := .long) (by decide) (by decide))))
  have f112 := ((F_waitNanos_a2.other W101 (Or.inr (slot_ne (Or.inl (W 37 rfl)) (Or.inl (W 55 rfl)) (by decide) (t := .long) (t' := .long) (by decide) (by decide)))).other W106 (Or.inr (slot_ne (Or.inl (W 37 rfl)) (Or.inl (W 53 rfl)) (by decide) (t := .long) (t' := .long) (by decide) (by decide))))
  have f113 := ((F_badConnectionCount_a2.other W101 (Or.inr (slot_ne (Or.inl (W 41 rfl)) (Or.inl (W 55 rfl)) (by decide) (t := .long) (t' := .long) (by decide) (by decide)))).other W106 (Or.inr (slot_ne (Or.inl (W 41 rfl)) (Or.inl (W 53 rfl)) (by decide) (t := .long) (t' := .long) (by decide) (by decide))))
  have f114 := ((F_claimedOverdueCount_a2.other W101 (Or.inr (slot_ne (Or.inl (W 45 rfl)) (Or.inl (W 55 rfl)) (by decide) (t := .long) (t' := .long) (by decide) (by decide)))).other W106 (Or.inr (slot_ne (Or.inl (W 45 rfl)) (Or.inl (W 53 rfl)) (by decide) (t := .long) (t' := .long) (by decide) (by decide))))
  have f115 := ((F_overdueCheckoutNanos_a2.other W101 (Or.inr (slot_ne (Or.inl (W 49 rfl)) (Or.inl (W 55 rfl)) (by decide) (t := .long) (t' := .long) (by decide) (by decide)))).other W106 (Or.inr (slot_ne (Or.inl (W 49 rfl)) (Or.inl (W 53 rfl)) (by decide) (t := .long) (t' := .long) (by decide) (by decide))))
  have f116 := (Fw101.other W106 (Or.inr (slot_ne (Or.inl (W 55 rfl)) (Or.inl (W 53 rfl)) (by decide) (t := .long) (t' := .long) (by decide) (by decide))))
  have f117 := ((F_connectionsOpened_a2.other W101 (Or.inr (slot_ne (Or.inl (W 65 rfl)) (Or.inl (W 55 rfl)) (by decide) (t := .long) (t' := .long) (by decide) (by decide)))).other W106 (Or.inr (slot_ne (Or.inl (W 65 rfl)) (Or.inl (W 53 rfl)) (by decide) (t := .long) (t' := .long) (by decide) (by decide))))
  obtain ⟨fs, hr, hrun, hended, hW, hsame⟩ := X106.leave (v := none) (fun _ => rfl)
  refine ⟨_, _, pre0 _ ?_, hrun, hended, _, _, rfl, ?_, ⟨_, rfl⟩, hW, hsame.mono (Nat.le_of_ble_eq_true rfl) (Nat.le_of_ble_eq_true rfl)⟩
  · show Steps p.tables e below (s₁.setTop (mkF m 0 #[.val (.ref a2), .val (.long q), .second] [])) _
    refine XS.aloadN X0.here hx rfl (hb hby dx_prog_17_method_6_code_0) rfl rfl ?_
    show Steps p.tables e below (s₁.setTop (mkF m 1 #[.val (.ref a2), .val (.long q), .second] [(.ref a2)])) _
    refine XS.dup X0.here hx rfl (hb hby dx_prog_17_method_6_code_1) rfl rfl ?_
    show Steps p.tables e below (s₁.setTop (mkF m 2 #[.val (.ref a2), .val (.long q), .second] [(.ref a2), (.ref a2)])) _
    refine st100 _ ?_
    show Steps p.tables e below (T100.setTop (mkF m 5 #[.val (.ref a2), .val (.long q), .second] [(.long c7), (.ref a2)])) _
    refine XS.lconst X100.here hx rfl (hb hby dx_prog_17_method_6_code_5) ?_
    show Steps p.tables e below (T100.setTop (mkF m 6 #[.val (.ref a2), .val (.long q), .second] [(.long (1 : Int64)), (.long c7), (.ref a2)])) _
    refine XS.ladd X100.here hx rfl (hb hby dx_prog_17_method_6_code_6) rfl ?_
    show Steps p.tables e below (T100.setTop (mkF m 7 #[.val (.ref a2), .val (.long q), .second] [(.long (c7 + (1 : Int64))), (.ref a2)])) _
    refine st101 _ ?_
    show Steps p.tables e below (T101.setTop (mkF m 10 #[.val (.ref a2), .val (.long q), .second] [])) _
    refine XS.aloadN X101.here hx rfl (hb hby dx_prog_17_method_6_code_10) rfl rfl ?_
    show Steps p.tables e below (T101.setTop (mkF m 11 #[.val (.ref a2), .val (.long q), .second] [(.ref a2)])) _
    refine XS.dup X101.here hx rfl (hb hby dx_prog_17_method_6_code_11) rfl rfl ?_
    show Steps p.tables e below (T101.setTop (mkF m 12 #[.val (.ref a2), .val (.long q), .second] [(.ref a2), (.ref a2)])) _
    refine st104 _ ?_
    show Steps p.tables e below (T104.setTop (mkF m 15 #[.val (.ref a2), .val (.long q), .second] [(.long c8), (.ref a2)])) _
    refine XS.lloadN X104.here hx rfl (hb hby dx_prog_17_method_6_code_15) rfl ?_
    show Steps p.tables e below (T104.setTop (mkF m 16 #[.val (.ref a2), .val (.long q), .second] [(.long q), (.long c8), (.ref a2)])) _
    refine XS.ladd X104.here hx rfl (hb hby dx_prog_17_method_6_code_16) rfl ?_
    show Steps p.tables e below (T104.setTop (mkF m 17 #[.val (.ref a2), .val (.long q), .second] [(.long (c8 + q)), (.ref a2)])) _
    refine st106 _ ?_
    show Steps p.tables e below (T106.setTop (mkF m 20 #[.val (.ref a2), .val (.long q), .second] [])) _
    exact X106.returnOut hx Bd.returns (hb hby dx_prog_17_method_6_code_20) hr
  · show QcheckedIn Z ns a2 q c0 c1 c2 c3 c4 c5 c6 c7 c8 c9 h0 n0 _ T106.heap _
    rw [e106]
    exact ⟨rfl, N106, K0_107, f108, f109, f110, f111, f112, f113, f114, f115, f116, Fw106, f117⟩
theorem pd___V : parseMethodDescriptor "()V" = some ⟨[], none⟩ := by decide +kernel
theorem pd__III_Lcom_example_cistern_cistern_PoolState_ : parseMethodDescriptor "(III)Lcom/example/cistern/cistern/PoolState;" = some ⟨[.int, .int, .int], some (.object "com/example/cistern/cistern/PoolState")⟩ := by decide +kernel
theorem pd___J : parseMethodDescriptor "()J" = some ⟨[], some .long⟩ := by decide +kernel
theorem pd__J_V : parseMethodDescriptor "(J)V" = some ⟨[.long], none⟩ := by decide +kernel
def Q0 (Z : State) (ns : Addr) (p0 : Int32) (q1 : Int64) (q2 : Int64) (q3 : Int64) (h0 : Heap) (n0 : Nat) (v : Option Value) (h : Heap) (L : List Loc) : Prop := v = some (.int (1 : Int32)) ∧ Fr n0 L ∧ Keep h0 h []
theorem ef_code_IJJJ (m : MethodId) (x0 : Int32) (x1 : Int64) (x2 : Int64) (x3 : Int64) : entryFrame m #[(.int x0), (.long x1), (.long x2), (.long x3)] maxLocals = mkF m 0 #[.val (.int x0), .val (.long x1), .second, .val (.long x2), .second, .val (.long x3), .second, .unset, .unset, .unset, .unset, .unset, .unset, .unset] [] := by first | (simp [entryFrame, mkF, argsToLocals, Value.category, maxLocals]; done) | rfl
theorem pn_com_example_cistern_cistern_CountersCheckedInPinLaw : plainName "com/example/cistern/cistern/CountersCheckedInPinLaw" = true := by first | (simp [plainName, overriddenIn]; done) | decide +kernel
set_option maxRecDepth 65536 in
set_option maxHeartbeats 40000000 in
theorem rm0_n0 (l : Launch) (Z : State) (a0 : Array Value) (ns : Addr) (hG : Glob Z a0 ns) (ws : List Jvm.Cond) (p0 : Int32) (q1 : Int64) (q2 : Int64) (q3 : Int64) (h0 : Heap) (n0 : Nat) (Z0 : n0 ≤ h0.size) (X00 : Old Z n0 h0) (hn : (p0 &&& (3 : Int32)) = (0 : Int32)) :
    MetFree l x (head1 (Jvm.Cond.code x code maxLocals ret :: ws) room_1) (fun a U => a = #[(.int p0), (.long q1), (.long q2), (.long q3)] ∧ Z.Warmed39 U.vm ∧ U.heap = h0) (fun _ _ _ _ _ => True) (fun _ U o U' => ∃ v L, o = .returned v ∧ Q0 Z ns p0 q1 q2 q3 h0 n0 v U'.heap L ∧ FrameEnd U o U' L room_1.cells room_1.slots) := by
  obtain ⟨hw, O_ns, O_ens, O_scale, O_ratio⟩ := id hG
  have W : ∀ (i : Nat) {d : Jvm.Cond}, tables_1[i]? = some d → d.before a0 Z = true := fun i d h => hw d (List.mem_of_getElem? h)
  refine MetFree.of_bodySF (plainFor_of_name pn_com_example_cistern_cistern_CountersCheckedInPinLaw) hisR ?_
  intro p e s m args below meth c s₁ Bd hml0 hP hK
  obtain ⟨rfl, hZ, hh⟩ := hP
  have hx := Bd.exec
  have hby := Bd.bytes
  have hml : c.maxLocals = 14 := hml0
  have hown : s.vm.findClass "com/example/cistern/cistern/CountersCheckedInPinLaw" = some m.cls := findClass_of_methodNamed Bd.named
  have hnm := (name_of_methodNamed Bd.named Bd.method).1
  have X0 : Stand p l e room_1 s m #[(.int p0), (.long q1), (.long q2), (.long q3)] below meth c s₁ [] 0 0 := Stand.of_body Bd
  have e0 : s₁.heap = h0 := by rw [← hh, Bd.state]; rfl
  have N0 := Fr.nil n0
  have pre0 : ∀ t, Steps p.tables e below (s₁.setTop (mkF m 0 #[.val (.int p0), .val (.long q1), .second, .val (.long q2), .second, .val (.long q3), .second, .unset, .unset, .unset, .unset, .unset, .unset, .unset] [])) t → Steps p.tables e below (s₁.setTop (entryFrame m #[(.int p0), (.long q1), (.long q2), (.long q3)] maxLocals)) t := fun t kk_ => castTop (ef_code_IJJJ m p0 q1 q2 q3) kk_
  obtain ⟨T118, h118, X118, e118, E118, A118, D118, -, st118⟩ := newO X0 hx hZ hown (W 0 rfl) (W 1 rfl) (W 2 rfl) e0 (g := (mkF m 5 #[.val (.int p0), .val (.long q1), .second, .val (.long q2), .second, .val (.long q3), .second, .val (.int (p0 &&& (3 : Int32))), .unset, .unset, .unset, .unset, .unset, .unset] [])) rfl (hb hby at_5) (by decide) (by decide)
  obtain ⟨b118, g118⟩ : ∃ z, z = h0.size := ⟨_, rfl⟩
  rw [← g118] at A118 D118 st118
  have Z119 : n0 ≤ h118.size := Nat.le_trans Z0 E118.1
  have K0_119 : Keep h0 h118 [] := (Keep.refl h0 []).ext E118
  have O119 : Old Z n0 h118 := X00.ext E118
  have lo_b118 : h0.size ≤ b118 := Nat.le_of_eq g118.symm
  have g_b118 : n0 ≤ b118 := Nat.le_trans Z0 lo_b118
  have l0_b118 : h0.size ≤ b118 := Nat.le_trans (Keep.refl h0 []).1 lo_b118
  have F_requestCount_b118 : Fld Z h118 b118 "com/example/cistern/cistern/PoolState$Counters" "requestCount" "J" (.long (0 : Int64)) := D118 (Or.inl (W 22 rfl)) (ty := .long) (by decide)
  have F_requestNanos_b118 : Fld Z h118 b118 "com/example/cistern/cistern/PoolState$Counters" "requestNanos" "J" (.long (0 : Int64)) := D118 (Or.inl (W 26 rfl)) (ty := .long) (by decide)
  have F_hadToWaitCount_b118 : Fld Z h118 b118 "com/example/cistern/cistern/PoolState$Counters" "hadToWaitCount" "J" (.long (0 : Int64)) := D118 (Or.inl (W 33 rfl)) (ty := .long) (by decide)
  have F_waitNanos_b118 : Fld Z h118 b118 "com/example/cistern/cistern/PoolState$Counters" "waitNanos" "J" (.long (0 : Int64)) := D118 (Or.inl (W 37 rfl)) (ty := .long) (by decide)
  have F_badConnectionCount_b118 : Fld Z h118 b118 "com/example/cistern/cistern/PoolState$Counters" "badConnectionCount" "J" (.long (0 : Int64)) := D118 (Or.inl (W 41 rfl)) (ty := .long) (by decide)
  have F_claimedOverdueCount_b118 : Fld Z h118 b118 "com/example/cistern/cistern/PoolState$Counters" "claimedOverdueCount" "J" (.long (0 : Int64)) := D118 (Or.inl (W 45 rfl)) (ty := .long) (by decide)
  have F_overdueCheckoutNanos_b118 : Fld Z h118 b118 "com/example/cistern/cistern/PoolState$Counters" "overdueCheckoutNanos" "J" (.long (0 : Int64)) := D118 (Or.inl (W 49 rfl)) (ty := .long) (by decide)
  have F_checkoutNanos_b118 : Fld Z h118 b118 "com/example/cistern/cistern/PoolState$Counters" "checkoutNanos" "J" (.long (0 : Int64)) := D118 (Or.inl (W 53 rfl)) (ty := .long) (by decide)
  have F_checkoutCount_b118 : Fld Z h118 b118 "com/example/cistern/cistern/PoolState$Counters" "checkoutCount" "J" (.long (0 : Int64)) := D118 (Or.inl (W 55 rfl)) (ty := .long) (by decide)
  have F_connectionsOpened_b118 : Fld Z h118 b118 "com/example/cistern/cistern/PoolState$Counters" "connectionsOpened" "J" (.long (0 : Int64)) := D118 (Or.inl (W 65 rfl)) (ty := .long) (by decide)
  -- pc 9: com/example/cistern/cistern/PoolState$Counters.<init>
  obtain ⟨_, _, ⟨T120, L120, k120, n120⟩, -, X120, ⟨Lc120, hQ120, l120, y120, z120⟩, st120⟩ := X118.specialBack hx (y := y4) rfl hown (mvT hZ (W 3 rfl)) (mvT hZ (W 4 rfl)) (mvT hZ (W 5 rfl)) (by decide) (backOf (W := 1) (rmcti l Z a0 ns hG [] b118 h118 n0 Z119 O119) hZ (W 5 rfl) (W 2 rfl) (by decide) (by decide)) (g := (mkF m 9 #[.val (.int p0), .val (.long q1), .second, .val (.long q2), .second, .val (.long q3), .second, .val (.int (p0 &&& (3 : Int32))), .unset, .unset, .unset, .unset, .unset, .unset] [(.ref b118), (.ref b118)])) rfl (by rw [hml]; rfl) (Steps.refl _) (a := b118) (argsL := []) (rest := [(.ref b118)]) (lenOf pd___V rfl) rfl (by show 2 * 0 + _ ≤ _; exact Nat.le_of_eq rfl) (hb hby at_9) (fun _ _ => ⟨rfl, e118, (by decide : 1 + 0 ≤ _), (by decide : 10 + 0 ≤ _)⟩)
  dsimp only [Pt.U, Pt.locs, Pt.cells, Pt.slots] at X120 l120 y120 z120 st120 hQ120
  subst l120 y120 z120
  obtain ⟨rfl, N120q, eq120⟩ := hQ120
  have N120 := Fr.app N0 N120q
  obtain ⟨cq121, kq121, q121a, q121b, q121c⟩ := isOf hZ eq120 A118
  -- pc 56: com/example/cistern/cistern/PoolState$Counters.snapshot
  obtain ⟨_, _, ⟨T121, L121, k121, n121⟩, -, X121, ⟨Lc121, hQ121, l121, y121, z121⟩, st121⟩ := X120.virtualBack hx (y := y3) (z := y3) hown (mvT hZ (W 9 rfl)) (mvT hZ (W 10 rfl)) (notFace_of_selects (args := #[]) (mvT hZ (W 12 rfl))) (mvT hZ (W 12 rfl)) (mvT hZ (W 11 rfl)) (by decide) (backOf (W := 0) (rmsnap l Z a0 ns hG [] b118 (0 : Int32) (0 : Int32) (0 : Int32) (0 : Int64) (0 : Int64) (0 : Int64) (0 : Int64) (0 : Int64) (0 : Int64) (0 : Int64) (0 : Int64) (0 : Int64) (0 : Int64) h118 n0 Z119 O119 F_requestCount_b118 F_requestNanos_b118 F_hadToWaitCount_b118 F_waitNanos_b118 F_badConnectionCount_b118 F_claimedOverdueCount_b118 F_overdueCheckoutNanos_b118 F_checkoutCount_b118 F_checkoutNanos_b118 F_connectionsOpened_b118) hZ (W 13 rfl) (W 2 rfl) (by decide) (by decide)) q121a q121c (g := (mkF m 56 #[.val (.int p0), .val (.long q1), .second, .val (.long q2), .second, .val (.long q3), .second, .val (.int (p0 &&& (3 : Int32))), .val (.ref b118), .unset, .unset, .unset, .unset, .unset] [(.int (0 : Int32)), (.int (0 : Int32)), (.int (0 : Int32)), (.ref b118)])) rfl (by rw [hml]; rfl) (Steps.refl _) (argsL := [(.int (0 : Int32)), (.int (0 : Int32)), (.int (0 : Int32))]) (rest := []) (lenOf pd__III_Lcom_example_cistern_cistern_PoolState_ rfl) rfl (by show 2 * 0 + _ ≤ _; exact Nat.le_of_eq rfl) (hb hby at_56) (fun _ _ => ⟨rfl, eq120, (by decide : 1 + 1 ≤ _), (by decide : 10 + 12 ≤ _)⟩)
  dsimp only [Pt.U, Pt.locs, Pt.cells, Pt.slots] at X121 l121 y121 z121 st121 hQ121
  subst l121 y121 z121
  obtain ⟨b_121, rfl, N121q, K121, f121_0, f121_1, f121_2, f121_3, f121_4, f121_5, f121_6, f121_7, f121_8, f121_9, f121_10, f121_11, f121_12, f121_13⟩ := hQ121
  have N121 := Fr.app N120 N121q
  have Z122 : n0 ≤ T121.heap.size := Nat.le_trans Z119 K121.1
  have K0_122 : Keep h0 T121.heap [] := K0_119.trans K121 all0
  have O122 : Old Z n0 T121.heap := O119.keep K121 all0
  have lo_b_121 : h118.size ≤ b_121 := f121_0
  have g_b_121 : n0 ≤ b_121 := Nat.le_trans Z119 lo_b_121
  have l0_b_121 : h0.size ≤ b_121 := Nat.le_trans K0_119.1 lo_b_121
  obtain ⟨cq123, kq123, q123a, q123b, q123c⟩ := isOf hZ rfl f121_1
  -- pc 123: com/example/cistern/cistern/PoolState.getAverageCheckoutTime
  obtain ⟨_, _, ⟨T123, L123, k123, n123⟩, -, X123, ⟨Lc123, hQ123, l123, y123, z123⟩, st123⟩ := X121.virtualBack hx (y := y8) (z := y8) hown (mvT hZ (W 68 rfl)) (mvT hZ (W 69 rfl)) (notFace_of_selects (args := #[]) (mvT hZ (W 71 rfl))) (mvT hZ (W 71 rfl)) (mvT hZ (W 70 rfl)) (by decide) (backOf (W := 0) (rmG_averageCheckoutTime l Z a0 ns hG [] b_121 (own_avg (0 : Int64) (0 : Int64)) T121.heap n0 Z122 O122 f121_9) hZ (W 72 rfl) (W 16 rfl) (by decide) (by decide)) q123a q123c (g := (mkF m 123 #[.val (.int p0), .val (.long q1), .second, .val (.long q2), .second, .val (.long q3), .second, .val (.int (p0 &&& (3 : Int32))), .val (.ref b118), .val (.ref b_121), .val (.long (0 : Int64)), .second, .val (.long (0 : Int64)), .second] [(.ref b_121)])) rfl (by rw [hml]; rfl) (Steps.refl _) (argsL := []) (rest := []) (lenOf pd___J rfl) rfl (by show 2 * 0 + _ ≤ _; exact Nat.le_of_eq rfl) (hb hby at_123) (fun _ _ => ⟨rfl, rfl, (by decide : 2 + 0 ≤ _), (by decide : 22 + 0 ≤ _)⟩)
  dsimp only [Pt.U, Pt.locs, Pt.cells, Pt.slots] at X123 l123 y123 z123 st123 hQ123
  subst l123 y123 z123
  obtain ⟨rfl, N123q, eq123⟩ := hQ123
  have N123 := Fr.app N121 N123q
  obtain ⟨cq124, kq124, q124a, q124b, q124c⟩ := isOf hZ eq123 f121_1
  -- pc 134: com/example/cistern/cistern/PoolState.getClaimedOverdueConnectionCount
  obtain ⟨_, _, ⟨T124, L124, k124, n124⟩, -, X124, ⟨Lc124, hQ124, l124, y124, z124⟩, st124⟩ := X123.virtualBack hx (y := y7) (z := y7) hown (mvT hZ (W 73 rfl)) (mvT hZ (W 74 rfl)) (notFace_of_selects (args := #[]) (mvT hZ (W 76 rfl))) (mvT hZ (W 76 rfl)) (mvT hZ (W 75 rfl)) (by decide) (backOf (W := 0) (rmG_claimedOverdueConnectionCount l Z a0 ns hG [] b_121 (0 : Int64) T121.heap n0 Z122 O122 f121_7) hZ (W 77 rfl) (W 16 rfl) (by decide) (by decide)) q124a q124c (g := (mkF m 134 #[.val (.int p0), .val (.long q1), .second, .val (.long q2), .second, .val (.long q3), .second, .val (.int (p0 &&& (3 : Int32))), .val (.ref b118), .val (.ref b_121), .val (.long (0 : Int64)), .second, .val (.long (0 : Int64)), .second] [(.ref b_121)])) rfl (by rw [hml]; rfl) (Steps.refl _) (argsL := []) (rest := []) (lenOf pd___J rfl) rfl (by show 2 * 0 + _ ≤ _; exact Nat.le_of_eq rfl) (hb hby at_134) (fun _ _ => ⟨rfl, eq123, (by decide : 2 + 0 ≤ _), (by decide : 22 + 0 ≤ _)⟩)
  dsimp only [Pt.U, Pt.locs, Pt.cells, Pt.slots] at X124 l124 y124 z124 st124 hQ124
  subst l124 y124 z124
  obtain ⟨rfl, N124q, eq124⟩ := hQ124
  have N124 := Fr.app N123 N124q
  obtain ⟨cq125, kq125, q125a, q125b, q125c⟩ := isOf hZ eq124 f121_1
  -- pc 144: com/example/cistern/cistern/PoolState.getRequestCount
  obtain ⟨_, _, ⟨T125, L125, k125, n125⟩, -, X125, ⟨Lc125, hQ125, l125, y125, z125⟩, st125⟩ := X124.virtualBack hx (y := y5) (z := y5) hown (mvT hZ (W 78 rfl)) (mvT hZ (W 79 rfl)) (notFace_of_selects (args := #[]) (mvT hZ (W 81 rfl))) (mvT hZ (W 81 rfl)) (mvT hZ (W 80 rfl)) (by decide) (backOf (W := 0) (rmG_requestCount l Z a0 ns hG [] b_121 (0 : Int64) T121.heap n0 Z122 O122 f121_2) hZ (W 82 rfl) (W 16 rfl) (by decide) (by decide)) q125a q125c (g := (mkF m 144 #[.val (.int p0), .val (.long q1), .second, .val (.long q2), .second, .val (.long q3), .second, .val (.int (p0 &&& (3 : Int32))), .val (.ref b118), .val (.ref b_121), .val (.long (0 : Int64)), .second, .val (.long (0 : Int64)), .second] [(.ref b_121)])) rfl (by rw [hml]; rfl) (Steps.refl _) (argsL := []) (rest := []) (lenOf pd___J rfl) rfl (by show 2 * 0 + _ ≤ _; exact Nat.le_of_eq rfl) (hb hby at_144) (fun _ _ => ⟨rfl, eq124, (by decide : 2 + 0 ≤ _), (by decide : 22 + 0 ≤ _)⟩)
  dsimp only [Pt.U, Pt.locs, Pt.cells, Pt.slots] at X125 l125 y125 z125 st125 hQ125
  subst l125 y125 z125
  obtain ⟨rfl, N125q, eq125⟩ := hQ125
  have N125 := Fr.app N124 N125q
  obtain ⟨cq126, kq126, q126a, q126b, q126c⟩ := isOf hZ eq125 f121_1
  -- pc 154: com/example/cistern/cistern/PoolState.getHadToWaitCount
  obtain ⟨_, _, ⟨T126, L126, k126, n126⟩, -, X126, ⟨Lc126, hQ126, l126, y126, z126⟩, st126⟩ := X125.virtualBack hx (y := y6) (z := y6) hown (mvT hZ (W 83 rfl)) (mvT hZ (W 84 rfl)) (notFace_of_selects (args := #[]) (mvT hZ (W 86 rfl))) (mvT hZ (W 86 rfl)) (mvT hZ (W 85 rfl)) (by decide) (backOf (W := 0) (rmG_hadToWaitCount l Z a0 ns hG [] b_121 (0 : Int64) T121.heap n0 Z122 O122 f121_4) hZ (W 87 rfl) (W 16 rfl) (by decide) (by decide)) q126a q126c (g := (mkF m 154 #[.val (.int p0), .val (.long q1), .second, .val (.long q2), .second, .val (.long q3), .second, .val (.int (p0 &&& (3 : Int32))), .val (.ref b118), .val (.ref b_121), .val (.long (0 : Int64)), .second, .val (.long (0 : Int64)), .second] [(.ref b_121)])) rfl (by rw [hml]; rfl) (Steps.refl _) (argsL := []) (rest := []) (lenOf pd___J rfl) rfl (by show 2 * 0 + _ ≤ _; exact Nat.le_of_eq rfl) (hb hby at_154) (fun _ _ => ⟨rfl, eq125, (by decide : 2 + 0 ≤ _), (by decide : 22 + 0 ≤ _)⟩)
  dsimp only [Pt.U, Pt.locs, Pt.cells, Pt.slots] at X126 l126 y126 z126 st126 hQ126
  subst l126 y126 z126
  obtain ⟨rfl, N126q, eq126⟩ := hQ126
  have N126 := Fr.app N125 N126q
  obtain ⟨cq127, kq127, q127a, q127b, q127c⟩ := isOf hZ eq126 f121_1
  -- pc 164: com/example/cistern/cistern/PoolState.getConnectionsOpened
  obtain ⟨_, _, ⟨T127, L127, k127, n127⟩, -, X127, ⟨Lc127, hQ127, l127, y127, z127⟩, st127⟩ := X126.virtualBack hx (y := y9) (z := y9) hown (mvT hZ (W 88 rfl)) (mvT hZ (W 89 rfl)) (notFace_of_selects (args := #[]) (mvT hZ (W 91 rfl))) (mvT hZ (W 91 rfl)) (mvT hZ (W 90 rfl)) (by decide) (backOf (W := 0) (rmG_connectionsOpened l Z a0 ns hG [] b_121 (0 : Int64) T121.heap n0 Z122 O122 f121_13) hZ (W 92 rfl) (W 16 rfl) (by decide) (by decide)) q127a q127c (g := (mkF m 164 #[.val (.int p0), .val (.long q1), .second, .val (.long q2), .second, .val (.long q3), .second, .val (.int (p0 &&& (3 : Int32))), .val (.ref b118), .val (.ref b_121), .val (.long (0 : Int64)), .second, .val (.long (0 : Int64)), .second] [(.ref b_121)])) rfl (by rw [hml]; rfl) (Steps.refl _) (argsL := []) (rest := []) (lenOf pd___J rfl) rfl (by show 2 * 0 + _ ≤ _; exact Nat.le_of_eq rfl) (hb hby at_164) (fun _ _ => ⟨rfl, eq126, (by decide : 2 + 0 ≤ _), (by decide : 22 + 0 ≤ _)⟩)
  dsimp only [Pt.U, Pt.locs, Pt.cells, Pt.slots] at X127 l127 y127 z127 st127 hQ127
  subst l127 y127 z127
  obtain ⟨rfl, N127q, eq127⟩ := hQ127
  have N127 := Fr.app N126 N127q
  obtain ⟨fs, hr, hrun, hended, hW, hsame⟩ := X127.leave (v := some (.int (1 : Int32))) (fun h => by rw [Bd.returns] at h; cases h)
  refine ⟨_, _, pre0 _ ?_, hrun, hended, _, _, rfl, ?_, ⟨_, rfl⟩, hW, hsame.mono (Nat.le_of_ble_eq_true rfl) (Nat.le_of_ble_eq_true rfl)⟩
  · show Steps p.tables e below (s₁.setTop (mkF m 0 #[.val (.int p0), .val (.long q1), .second, .val (.long q2), .second, .val (.long q3), .second, .unset, .unset, .unset, .unset, .unset, .unset, .unset] [])) _
    refine XS.iloadN X0.here hx rfl (hb hby at_0) rfl ?_
    show Steps p.tables e below (s₁.setTop (mkF m 1 #[.val (.int p0), .val (.long q1), .second, .val (.long q2), .second, .val (.long q3), .second, .unset, .unset, .unset, .unset, .unset, .unset, .unset] [(.int p0)])) _
    refine XS.iconst X0.here hx rfl (hb hby at_1) ?_
    show Steps p.tables e below (s₁.setTop (mkF m 2 #[.val (.int p0), .val (.long q1), .second, .val (.long q2), .second, .val (.long q3), .second, .unset, .unset, .unset, .unset, .unset, .unset, .unset] [(.int (3 : Int32)), (.int p0)])) _
    refine XS.iand X0.here hx rfl (hb hby at_2) rfl ?_
    show Steps p.tables e below (s₁.setTop (mkF m 3 #[.val (.int p0), .val (.long q1), .second, .val (.long q2), .second, .val (.long q3), .second, .unset, .unset, .unset, .unset, .unset, .unset, .unset] [(.int (p0 &&& (3 : Int32)))])) _
    refine XS.istore X0.here hx rfl (hb hby at_3) rfl (l' := #[.val (.int p0), .val (.long q1), .second, .val (.long q2), .second, .val (.long q3), .second, .val (.int (p0 &&& (3 : Int32))), .unset, .unset, .unset, .unset, .unset, .unset]) rfl ?_
    show Steps p.tables e below (s₁.setTop (mkF m 5 #[.val (.int p0), .val (.long q1), .second, .val (.long q2), .second, .val (.long q3), .second, .val (.int (p0 &&& (3 : Int32))), .unset, .unset, .unset, .unset, .unset, .unset] [])) _
    refine st118 _ ?_
    show Steps p.tables e below (T118.setTop (mkF m 8 #[.val (.int p0), .val (.long q1), .second, .val (.long q2), .second, .val (.long q3), .second, .val (.int (p0 &&& (3 : Int32))), .unset, .unset, .unset, .unset, .unset, .unset] [(.ref b118)])) _
    refine XS.dup X118.here hx rfl (hb hby at_8) rfl rfl ?_
    show Steps p.tables e below (T118.setTop (mkF m 9 #[.val (.int p0), .val (.long q1), .second, .val (.long q2), .second, .val (.long q3), .second, .val (.int (p0 &&& (3 : Int32))), .unset, .unset, .unset, .unset, .unset, .unset] [(.ref b118), (.ref b118)])) _
    refine st120.trans ?_
    show Steps p.tables e below (T120.setTop (mkF m 12 #[.val (.int p0), .val (.long q1), .second, .val (.long q2), .second, .val (.long q3), .second, .val (.int (p0 &&& (3 : Int32))), .unset, .unset, .unset, .unset, .unset, .unset] [(.ref b118)])) _
    refine XS.astore X120.here hx rfl (hb hby at_12) rfl rfl (l' := #[.val (.int p0), .val (.long q1), .second, .val (.long q2), .second, .val (.long q3), .second, .val (.int (p0 &&& (3 : Int32))), .val (.ref b118), .unset, .unset, .unset, .unset, .unset]) rfl ?_
    show Steps p.tables e below (T120.setTop (mkF m 14 #[.val (.int p0), .val (.long q1), .second, .val (.long q2), .second, .val (.long q3), .second, .val (.int (p0 &&& (3 : Int32))), .val (.ref b118), .unset, .unset, .unset, .unset, .unset] [])) _
    refine XS.iload X120.here hx rfl (hb hby at_14) rfl ?_
    show Steps p.tables e below (T120.setTop (mkF m 16 #[.val (.int p0), .val (.long q1), .second, .val (.long q2), .second, .val (.long q3), .second, .val (.int (p0 &&& (3 : Int32))), .val (.ref b118), .unset, .unset, .unset, .unset, .unset] [(.int (p0 &&& (3 : Int32)))])) _
    refine XS.iconst X120.here hx rfl (hb hby at_16) ?_
    show Steps p.tables e below (T120.setTop (mkF m 17 #[.val (.int p0), .val (.long q1), .second, .val (.long q2), .second, .val (.long q3), .second, .val (.int (p0 &&& (3 : Int32))), .val (.ref b118), .unset, .unset, .unset, .unset, .unset] [(.int (1 : Int32)), (.int (p0 &&& (3 : Int32)))])) _
    refine XS.icmpYes X120.here hx rfl (pc0 := 17) (pc' := 26) rfl (hb hby at_17) rfl (tlt (by rw [hn] <;> decide : (p0 &&& (3 : Int32)) < (1 : Int32))).1 (by decide) (by decide) ?_
    show Steps p.tables e below (T120.setTop (mkF m 26 #[.val (.int p0), .val (.long q1), .second, .val (.long q2), .second, .val (.long q3), .second, .val (.int (p0 &&& (3 : Int32))), .val (.ref b118), .unset, .unset, .unset, .unset, .unset] [])) _
    refine XS.iload X120.here hx rfl (hb hby at_26) rfl ?_
    show Steps p.tables e below (T120.setTop (mkF m 28 #[.val (.int p0), .val (.long q1), .second, .val (.long q2), .second, .val (.long q3), .second, .val (.int (p0 &&& (3 : Int32))), .val (.ref b118), .unset, .unset, .unset, .unset, .unset] [(.int (p0 &&& (3 : Int32)))])) _
    refine XS.iconst X120.here hx rfl (hb hby at_28) ?_
    show Steps p.tables e below (T120.setTop (mkF m 29 #[.val (.int p0), .val (.long q1), .second, .val (.long q2), .second, .val (.long q3), .second, .val (.int (p0 &&& (3 : Int32))), .val (.ref b118), .unset, .unset, .unset, .unset, .unset] [(.int (2 : Int32)), (.int (p0 &&& (3 : Int32)))])) _
    refine XS.icmpYes X120.here hx rfl (pc0 := 29) (pc' := 38) rfl (hb hby at_29) rfl (tlt (by rw [hn] <;> decide : (p0 &&& (3 : Int32)) < (2 : Int32))).1 (by decide) (by decide) ?_
    show Steps p.tables e below (T120.setTop (mkF m 38 #[.val (.int p0), .val (.long q1), .second, .val (.long q2), .second, .val (.long q3), .second, .val (.int (p0 &&& (3 : Int32))), .val (.ref b118), .unset, .unset, .unset, .unset, .unset] [])) _
    refine XS.iload X120.here hx rfl (hb hby at_38) rfl ?_
    show Steps p.tables e below (T120.setTop (mkF m 40 #[.val (.int p0), .val (.long q1), .second, .val (.long q2), .second, .val (.long q3), .second, .val (.int (p0 &&& (3 : Int32))), .val (.ref b118), .unset, .unset, .unset, .unset, .unset] [(.int (p0 &&& (3 : Int32)))])) _
    refine XS.iconst X120.here hx rfl (hb hby at_40) ?_
    show Steps p.tables e below (T120.setTop (mkF m 41 #[.val (.int p0), .val (.long q1), .second, .val (.long q2), .second, .val (.long q3), .second, .val (.int (p0 &&& (3 : Int32))), .val (.ref b118), .unset, .unset, .unset, .unset, .unset] [(.int (3 : Int32)), (.int (p0 &&& (3 : Int32)))])) _
    refine XS.icmpYes X120.here hx rfl (pc0 := 41) (pc' := 51) rfl (hb hby at_41) rfl (tlt (by rw [hn] <;> decide : (p0 &&& (3 : Int32)) < (3 : Int32))).1 (by decide) (by decide) ?_
    show Steps p.tables e below (T120.setTop (mkF m 51 #[.val (.int p0), .val (.long q1), .second, .val (.long q2), .second, .val (.long q3), .second, .val (.int (p0 &&& (3 : Int32))), .val (.ref b118), .unset, .unset, .unset, .unset, .unset] [])) _
    refine XS.aload X120.here hx rfl (hb hby at_51) rfl rfl ?_
    show Steps p.tables e below (T120.setTop (mkF m 53 #[.val (.int p0), .val (.long q1), .second, .val (.long q2), .second, .val (.long q3), .second, .val (.int (p0 &&& (3 : Int32))), .val (.ref b118), .unset, .unset, .unset, .unset, .unset] [(.ref b118)])) _
    refine XS.iconst X120.here hx rfl (hb hby at_53) ?_
    show Steps p.tables e below (T120.setTop (mkF m 54 #[.val (.int p0), .val (.long q1), .second, .val (.long q2), .second, .val (.long q3), .second, .val (.int (p0 &&& (3 : Int32))), .val (.ref b118), .unset, .unset, .unset, .unset, .unset] [(.int (0 : Int32)), (.ref b118)])) _
    refine XS.iconst X120.here hx rfl (hb hby at_54) ?_
    show Steps p.tables e below (T120.setTop (mkF m 55 #[.val (.int p0), .val (.long q1), .second, .val (.long q2), .second, .val (.long q3), .second, .val (.int (p0 &&& (3 : Int32))), .val (.ref b118), .unset, .unset, .unset, .unset, .unset] [(.int (0 : Int32)), (.int (0 : Int32)), (.ref b118)])) _
    refine XS.iconst X120.here hx rfl (hb hby at_55) ?_
    show Steps p.tables e below (T120.setTop (mkF m 56 #[.val (.int p0), .val (.long q1), .second, .val (.long q2), .second, .val (.long q3), .second, .val (.int (p0 &&& (3 : Int32))), .val (.ref b118), .unset, .unset, .unset, .unset, .unset] [(.int (0 : Int32)), (.int (0 : Int32)), (.int (0 : Int32)), (.ref b118)])) _
    refine st121.trans ?_
    show Steps p.tables e below (T121.setTop (mkF m 59 #[.val (.int p0), .val (.long q1), .second, .val (.long q2), .second, .val (.long q3), .second, .val (.int (p0 &&& (3 : Int32))), .val (.ref b118), .unset, .unset, .unset, .unset, .unset] [(.ref b_121)])) _
    refine XS.astore X121.here hx rfl (hb hby at_59) rfl rfl (l' := #[.val (.int p0), .val (.long q1), .second, .val (.long q2), .second, .val (.long q3), .second, .val (.int (p0 &&& (3 : Int32))), .val (.ref b118), .val (.ref b_121), .unset, .unset, .unset, .unset]) rfl ?_
    show Steps p.tables e below (T121.setTop (mkF m 61 #[.val (.int p0), .val (.long q1), .second, .val (.long q2), .second, .val (.long q3), .second, .val (.int (p0 &&& (3 : Int32))), .val (.ref b118), .val (.ref b_121), .unset, .unset, .unset, .unset] [])) _
    refine XS.lconst X121.here hx rfl (hb hby at_61) ?_
    show Steps p.tables e below (T121.setTop (mkF m 62 #[.val (.int p0), .val (.long q1), .second, .val (.long q2), .second, .val (.long q3), .second, .val (.int (p0 &&& (3 : Int32))), .val (.ref b118), .val (.ref b_121), .unset, .unset, .unset, .unset] [(.long (0 : Int64))])) _
    refine XS.lstore X121.here hx rfl (hb hby at_62) rfl (l' := #[.val (.int p0), .val (.long q1), .second, .val (.long q2), .second, .val (.long q3), .second, .val (.int (p0 &&& (3 : Int32))), .val (.ref b118), .val (.ref b_121), .val (.long (0 : Int64)), .second, .unset, .unset]) rfl ?_
    show Steps p.tables e below (T121.setTop (mkF m 64 #[.val (.int p0), .val (.long q1), .second, .val (.long q2), .second, .val (.long q3), .second, .val (.int (p0 &&& (3 : Int32))), .val (.ref b118), .val (.ref b_121), .val (.long (0 : Int64)), .second, .unset, .unset] [])) _
    refine XS.iload X121.here hx rfl (hb hby at_64) rfl ?_
    show Steps p.tables e below (T121.setTop (mkF m 66 #[.val (.int p0), .val (.long q1), .second, .val (.long q2), .second, .val (.long q3), .second, .val (.int (p0 &&& (3 : Int32))), .val (.ref b118), .val (.ref b_121), .val (.long (0 : Int64)), .second, .unset, .unset] [(.int (p0 &&& (3 : Int32)))])) _
    refine XS.iconst X121.here hx rfl (hb hby at_66) ?_
    show Steps p.tables e below (T121.setTop (mkF m 67 #[.val (.int p0), .val (.long q1), .second, .val (.long q2), .second, .val (.long q3), .second, .val (.int (p0 &&& (3 : Int32))), .val (.ref b118), .val (.ref b_121), .val (.long (0 : Int64)), .second, .unset, .unset] [(.int (1 : Int32)), (.int (p0 &&& (3 : Int32)))])) _
    refine XS.icmpYes X121.here hx rfl (pc0 := 67) (pc' := 76) rfl (hb hby at_67) rfl (tlt (by rw [hn] <;> decide : (p0 &&& (3 : Int32)) < (1 : Int32))).1 (by decide) (by decide) ?_
    show Steps p.tables e below (T121.setTop (mkF m 76 #[.val (.int p0), .val (.long q1), .second, .val (.long q2), .second, .val (.long q3), .second, .val (.int (p0 &&& (3 : Int32))), .val (.ref b118), .val (.ref b_121), .val (.long (0 : Int64)), .second, .unset, .unset] [])) _
    refine XS.iload X121.here hx rfl (hb hby at_76) rfl ?_
    show Steps p.tables e below (T121.setTop (mkF m 78 #[.val (.int p0), .val (.long q1), .second, .val (.long q2), .second, .val (.long q3), .second, .val (.int (p0 &&& (3 : Int32))), .val (.ref b118), .val (.ref b_121), .val (.long (0 : Int64)), .second, .unset, .unset] [(.int (p0 &&& (3 : Int32)))])) _
    refine XS.iconst X121.here hx rfl (hb hby at_78) ?_
    show Steps p.tables e below (T121.setTop (mkF m 79 #[.val (.int p0), .val (.long q1), .second, .val (.long q2), .second, .val (.long q3), .second, .val (.int (p0 &&& (3 : Int32))), .val (.ref b118), .val (.ref b_121), .val (.long (0 : Int64)), .second, .unset, .unset] [(.int (2 : Int32)), (.int (p0 &&& (3 : Int32)))])) _
    refine XS.icmpYes X121.here hx rfl (pc0 := 79) (pc' := 88) rfl (hb hby at_79) rfl (tlt (by rw [hn] <;> decide : (p0 &&& (3 : Int32)) < (2 : Int32))).1 (by decide) (by decide) ?_
    show Steps p.tables e below (T121.setTop (mkF m 88 #[.val (.int p0), .val (.long q1), .second, .val (.long q2), .second, .val (.long q3), .second, .val (.int (p0 &&& (3 : Int32))), .val (.ref b118), .val (.ref b_121), .val (.long (0 : Int64)), .second, .unset, .unset] [])) _
    refine XS.iload X121.here hx rfl (hb hby at_88) rfl ?_
    show Steps p.tables e below (T121.setTop (mkF m 90 #[.val (.int p0), .val (.long q1), .second, .val (.long q2), .second, .val (.long q3), .second, .val (.int (p0 &&& (3 : Int32))), .val (.ref b118), .val (.ref b_121), .val (.long (0 : Int64)), .second, .unset, .unset] [(.int (p0 &&& (3 : Int32)))])) _
    refine XS.iconst X121.here hx rfl (hb hby at_90) ?_
    show Steps p.tables e below (T121.setTop (mkF m 91 #[.val (.int p0), .val (.long q1), .second, .val (.long q2), .second, .val (.long q3), .second, .val (.int (p0 &&& (3 : Int32))), .val (.ref b118), .val (.ref b_121), .val (.long (0 : Int64)), .second, .unset, .unset] [(.int (3 : Int32)), (.int (p0 &&& (3 : Int32)))])) _
    refine XS.icmpYes X121.here hx rfl (pc0 := 91) (pc' := 101) rfl (hb hby at_91) rfl (tlt (by rw [hn] <;> decide : (p0 &&& (3 : Int32)) < (3 : Int32))).1 (by decide) (by decide) ?_
    show Steps p.tables e below (T121.setTop (mkF m 101 #[.val (.int p0), .val (.long q1), .second, .val (.long q2), .second, .val (.long q3), .second, .val (.int (p0 &&& (3 : Int32))), .val (.ref b118), .val (.ref b_121), .val (.long (0 : Int64)), .second, .unset, .unset] [])) _
    refine XS.lconst X121.here hx rfl (hb hby at_101) ?_
    show Steps p.tables e below (T121.setTop (mkF m 102 #[.val (.int p0), .val (.long q1), .second, .val (.long q2), .second, .val (.long q3), .second, .val (.int (p0 &&& (3 : Int32))), .val (.ref b118), .val (.ref b_121), .val (.long (0 : Int64)), .second, .unset, .unset] [(.long (0 : Int64))])) _
    refine XS.lstore X121.here hx rfl (hb hby at_102) rfl (l' := #[.val (.int p0), .val (.long q1), .second, .val (.long q2), .second, .val (.long q3), .second, .val (.int (p0 &&& (3 : Int32))), .val (.ref b118), .val (.ref b_121), .val (.long (0 : Int64)), .second, .val (.long (0 : Int64)), .second]) rfl ?_
    show Steps p.tables e below (T121.setTop (mkF m 104 #[.val (.int p0), .val (.long q1), .second, .val (.long q2), .second, .val (.long q3), .second, .val (.int (p0 &&& (3 : Int32))), .val (.ref b118), .val (.ref b_121), .val (.long (0 : Int64)), .second, .val (.long (0 : Int64)), .second] [])) _
    refine XS.iload X121.here hx rfl (hb hby at_104) rfl ?_
    show Steps p.tables e below (T121.setTop (mkF m 106 #[.val (.int p0), .val (.long q1), .second, .val (.long q2), .second, .val (.long q3), .second, .val (.int (p0 &&& (3 : Int32))), .val (.ref b118), .val (.ref b_121), .val (.long (0 : Int64)), .second, .val (.long (0 : Int64)), .second] [(.int (p0 &&& (3 : Int32)))])) _
    refine XS.ifYes X121.here hx rfl (pc0 := 106) (pc' := 121) rfl (hb hby at_106) rfl ((if0 _ _).trans (teq (by rw [hn] <;> decide : (p0 &&& (3 : Int32)) = (0 : Int32))).1) (by decide) (by decide) ?_
    show Steps p.tables e below (T121.setTop (mkF m 121 #[.val (.int p0), .val (.long q1), .second, .val (.long q2), .second, .val (.long q3), .second, .val (.int (p0 &&& (3 : Int32))), .val (.ref b118), .val (.ref b_121), .val (.long (0 : Int64)), .second, .val (.long (0 : Int64)), .second] [])) _
    refine XS.aload X121.here hx rfl (hb hby at_121) rfl rfl ?_
    show Steps p.tables e below (T121.setTop (mkF m 123 #[.val (.int p0), .val (.long q1), .second, .val (.long q2), .second, .val (.long q3), .second, .val (.int (p0 &&& (3 : Int32))), .val (.ref b118), .val (.ref b_121), .val (.long (0 : Int64)), .second, .val (.long (0 : Int64)), .second] [(.ref b_121)])) _
    refine st123.trans ?_
    show Steps p.tables e below (T123.setTop (mkF m 126 #[.val (.int p0), .val (.long q1), .second, .val (.long q2), .second, .val (.long q3), .second, .val (.int (p0 &&& (3 : Int32))), .val (.ref b118), .val (.ref b_121), .val (.long (0 : Int64)), .second, .val (.long (0 : Int64)), .second] [(.long (own_avg (0 : Int64) (0 : Int64)))])) _
    refine XS.lload X123.here hx rfl (hb hby at_126) rfl ?_
    show Steps p.tables e below (T123.setTop (mkF m 128 #[.val (.int p0), .val (.long q1), .second, .val (.long q2), .second, .val (.long q3), .second, .val (.int (p0 &&& (3 : Int32))), .val (.ref b118), .val (.ref b_121), .val (.long (0 : Int64)), .second, .val (.long (0 : Int64)), .second] [(.long (0 : Int64)), (.long (own_avg (0 : Int64) (0 : Int64)))])) _
    refine XS.lcmp X123.here hx rfl (hb hby at_128) rfl ?_
    show Steps p.tables e below (T123.setTop (mkF m 129 #[.val (.int p0), .val (.long q1), .second, .val (.long q2), .second, .val (.long q3), .second, .val (.int (p0 &&& (3 : Int32))), .val (.ref b118), .val (.ref b_121), .val (.long (0 : Int64)), .second, .val (.long (0 : Int64)), .second] [(.int (lcmpW (own_avg (0 : Int64) (0 : Int64)) (0 : Int64)))])) _
    refine XS.ifNo X123.here hx rfl (hb hby at_129) rfl ((if0 _ _).trans (teq ((lw_eq _ _).mpr (own_avg0 rfl) : (lcmpW (own_avg (0 : Int64) (0 : Int64)) (0 : Int64)) = (0 : Int32))).2) ?_
    show Steps p.tables e below (T123.setTop (mkF m 132 #[.val (.int p0), .val (.long q1), .second, .val (.long q2), .second, .val (.long q3), .second, .val (.int (p0 &&& (3 : Int32))), .val (.ref b118), .val (.ref b_121), .val (.long (0 : Int64)), .second, .val (.long (0 : Int64)), .second] [])) _
    refine XS.aload X123.here hx rfl (hb hby at_132) rfl rfl ?_
    show Steps p.tables e below (T123.setTop (mkF m 134 #[.val (.int p0), .val (.long q1), .second, .val (.long q2), .second, .val (.long q3), .second, .val (.int (p0 &&& (3 : Int32))), .val (.ref b118), .val (.ref b_121), .val (.long (0 : Int64)), .second, .val (.long (0 : Int64)), .second] [(.ref b_121)])) _
    refine st124.trans ?_
    show Steps p.tables e below (T124.setTop (mkF m 137 #[.val (.int p0), .val (.long q1), .second, .val (.long q2), .second, .val (.long q3), .second, .val (.int (p0 &&& (3 : Int32))), .val (.ref b118), .val (.ref b_121), .val (.long (0 : Int64)), .second, .val (.long (0 : Int64)), .second] [(.long (0 : Int64))])) _
    refine XS.lconst X124.here hx rfl (hb hby at_137) ?_
    show Steps p.tables e below (T124.setTop (mkF m 138 #[.val (.int p0), .val (.long q1), .second, .val (.long q2), .second, .val (.long q3), .second, .val (.int (p0 &&& (3 : Int32))), .val (.ref b118), .val (.ref b_121), .val (.long (0 : Int64)), .second, .val (.long (0 : Int64)), .second] [(.long (0 : Int64)), (.long (0 : Int64))])) _
    refine XS.lcmp X124.here hx rfl (hb hby at_138) rfl ?_
    show Steps p.tables e below (T124.setTop (mkF m 139 #[.val (.int p0), .val (.long q1), .second, .val (.long q2), .second, .val (.long q3), .second, .val (.int (p0 &&& (3 : Int32))), .val (.ref b118), .val (.ref b_121), .val (.long (0 : Int64)), .second, .val (.long (0 : Int64)), .second] [(.int (lcmpW (0 : Int64) (0 : Int64)))])) _
    refine XS.ifNo X124.here hx rfl (hb hby at_139) rfl ((if0 _ _).trans (teq ((lw_eq _ _).mpr rfl : (lcmpW (0 : Int64) (0 : Int64)) = (0 : Int32))).2) ?_
    show Steps p.tables e below (T124.setTop (mkF m 142 #[.val (.int p0), .val (.long q1), .second, .val (.long q2), .second, .val (.long q3), .second, .val (.int (p0 &&& (3 : Int32))), .val (.ref b118), .val (.ref b_121), .val (.long (0 : Int64)), .second, .val (.long (0 : Int64)), .second] [])) _
    refine XS.aload X124.here hx rfl (hb hby at_142) rfl rfl ?_
    show Steps p.tables e below (T124.setTop (mkF m 144 #[.val (.int p0), .val (.long q1), .second, .val (.long q2), .second, .val (.long q3), .second, .val (.int (p0 &&& (3 : Int32))), .val (.ref b118), .val (.ref b_121), .val (.long (0 : Int64)), .second, .val (.long (0 : Int64)), .second] [(.ref b_121)])) _
    refine st125.trans ?_
    show Steps p.tables e below (T125.setTop (mkF m 147 #[.val (.int p0), .val (.long q1), .second, .val (.long q2), .second, .val (.long q3), .second, .val (.int (p0 &&& (3 : Int32))), .val (.ref b118), .val (.ref b_121), .val (.long (0 : Int64)), .second, .val (.long (0 : Int64)), .second] [(.long (0 : Int64))])) _
    refine XS.lconst X125.here hx rfl (hb hby at_147) ?_
    show Steps p.tables e below (T125.setTop (mkF m 148 #[.val (.int p0), .val (.long q1), .second, .val (.long q2), .second, .val (.long q3), .second, .val (.int (p0 &&& (3 : Int32))), .val (.ref b118), .val (.ref b_121), .val (.long (0 : Int64)), .second, .val (.long (0 : Int64)), .second] [(.long (0 : Int64)), (.long (0 : Int64))])) _
    refine XS.lcmp X125.here hx rfl (hb hby at_148) rfl ?_
    show Steps p.tables e below (T125.setTop (mkF m 149 #[.val (.int p0), .val (.long q1), .second, .val (.long q2), .second, .val (.long q3), .second, .val (.int (p0 &&& (3 : Int32))), .val (.ref b118), .val (.ref b_121), .val (.long (0 : Int64)), .second, .val (.long (0 : Int64)), .second] [(.int (lcmpW (0 : Int64) (0 : Int64)))])) _
    refine XS.ifNo X125.here hx rfl (hb hby at_149) rfl ((if0 _ _).trans (teq ((lw_eq _ _).mpr rfl : (lcmpW (0 : Int64) (0 : Int64)) = (0 : Int32))).2) ?_
    show Steps p.tables e below (T125.setTop (mkF m 152 #[.val (.int p0), .val (.long q1), .second, .val (.long q2), .second, .val (.long q3), .second, .val (.int (p0 &&& (3 : Int32))), .val (.ref b118), .val (.ref b_121), .val (.long (0 : Int64)), .second, .val (.long (0 : Int64)), .second] [])) _
    refine XS.aload X125.here hx rfl (hb hby at_152) rfl rfl ?_
    show Steps p.tables e below (T125.setTop (mkF m 154 #[.val (.int p0), .val (.long q1), .second, .val (.long q2), .second, .val (.long q3), .second, .val (.int (p0 &&& (3 : Int32))), .val (.ref b118), .val (.ref b_121), .val (.long (0 : Int64)), .second, .val (.long (0 : Int64)), .second] [(.ref b_121)])) _
    refine st126.trans ?_
    show Steps p.tables e below (T126.setTop (mkF m 157 #[.val (.int p0), .val (.long q1), .second, .val (.long q2), .second, .val (.long q3), .second, .val (.int (p0 &&& (3 : Int32))), .val (.ref b118), .val (.ref b_121), .val (.long (0 : Int64)), .second, .val (.long (0 : Int64)), .second] [(.long (0 : Int64))])) _
    refine XS.lconst X126.here hx rfl (hb hby at_157) ?_
    show Steps p.tables e below (T126.setTop (mkF m 158 #[.val (.int p0), .val (.long q1), .second, .val (.long q2), .second, .val (.long q3), .second, .val (.int (p0 &&& (3 : Int32))), .val (.ref b118), .val (.ref b_121), .val (.long (0 : Int64)), .second, .val (.long (0 : Int64)), .second] [(.long (0 : Int64)), (.long (0 : Int64))])) _
    refine XS.lcmp X126.here hx rfl (hb hby at_158) rfl ?_
    show Steps p.tables e below (T126.setTop (mkF m 159 #[.val (.int p0), .val (.long q1), .second, .val (.long q2), .second, .val (.long q3), .second, .val (.int (p0 &&& (3 : Int32))), .val (.ref b118), .val (.ref b_121), .val (.long (0 : Int64)), .second, .val (.long (0 : Int64)), .second] [(.int (lcmpW (0 : Int64) (0 : Int64)))])) _
    refine XS.ifNo X126.here hx rfl (hb hby at_159) rfl ((if0 _ _).trans (teq ((lw_eq _ _).mpr rfl : (lcmpW (0 : Int64) (0 : Int64)) = (0 : Int32))).2) ?_
    show Steps p.tables e below (T126.setTop (mkF m 162 #[.val (.int p0), .val (.long q1), .second, .val (.long q2), .second, .val (.long q3), .second, .val (.int (p0 &&& (3 : Int32))), .val (.ref b118), .val (.ref b_121), .val (.long (0 : Int64)), .second, .val (.long (0 : Int64)), .second] [])) _
    refine XS.aload X126.here hx rfl (hb hby at_162) rfl rfl ?_
    show Steps p.tables e below (T126.setTop (mkF m 164 #[.val (.int p0), .val (.long q1), .second, .val (.long q2), .second, .val (.long q3), .second, .val (.int (p0 &&& (3 : Int32))), .val (.ref b118), .val (.ref b_121), .val (.long (0 : Int64)), .second, .val (.long (0 : Int64)), .second] [(.ref b_121)])) _
    refine st127.trans ?_
    show Steps p.tables e below (T127.setTop (mkF m 167 #[.val (.int p0), .val (.long q1), .second, .val (.long q2), .second, .val (.long q3), .second, .val (.int (p0 &&& (3 : Int32))), .val (.ref b118), .val (.ref b_121), .val (.long (0 : Int64)), .second, .val (.long (0 : Int64)), .second] [(.long (0 : Int64))])) _
    refine XS.lconst X127.here hx rfl (hb hby at_167) ?_
    show Steps p.tables e below (T127.setTop (mkF m 168 #[.val (.int p0), .val (.long q1), .second, .val (.long q2), .second, .val (.long q3), .second, .val (.int (p0 &&& (3 : Int32))), .val (.ref b118), .val (.ref b_121), .val (.long (0 : Int64)), .second, .val (.long (0 : Int64)), .second] [(.long (0 : Int64)), (.long (0 : Int64))])) _
    refine XS.lcmp X127.here hx rfl (hb hby at_168) rfl ?_
    show Steps p.tables e below (T127.setTop (mkF m 169 #[.val (.int p0), .val (.long q1), .second, .val (.long q2), .second, .val (.long q3), .second, .val (.int (p0 &&& (3 : Int32))), .val (.ref b118), .val (.ref b_121), .val (.long (0 : Int64)), .second, .val (.long (0 : Int64)), .second] [(.int (lcmpW (0 : Int64) (0 : Int64)))])) _
    refine XS.ifNo X127.here hx rfl (hb hby at_169) rfl ((if0 _ _).trans (teq ((lw_eq _ _).mpr rfl : (lcmpW (0 : Int64) (0 : Int64)) = (0 : Int32))).2) ?_
    show Steps p.tables e below (T127.setTop (mkF m 172 #[.val (.int p0), .val (.long q1), .second, .val (.long q2), .second, .val (.long q3), .second, .val (.int (p0 &&& (3 : Int32))), .val (.ref b118), .val (.ref b_121), .val (.long (0 : Int64)), .second, .val (.long (0 : Int64)), .second] [])) _
    refine XS.iconst X127.here hx rfl (hb hby at_172) ?_
    show Steps p.tables e below (T127.setTop (mkF m 173 #[.val (.int p0), .val (.long q1), .second, .val (.long q2), .second, .val (.long q3), .second, .val (.int (p0 &&& (3 : Int32))), .val (.ref b118), .val (.ref b_121), .val (.long (0 : Int64)), .second, .val (.long (0 : Int64)), .second] [(.int (1 : Int32))])) _
    refine XS.goto X127.here hx rfl (pc0 := 173) (pc' := 177) rfl (hb hby at_173) (by decide) (by decide) ?_
    show Steps p.tables e below (T127.setTop (mkF m 177 #[.val (.int p0), .val (.long q1), .second, .val (.long q2), .second, .val (.long q3), .second, .val (.int (p0 &&& (3 : Int32))), .val (.ref b118), .val (.ref b_121), .val (.long (0 : Int64)), .second, .val (.long (0 : Int64)), .second] [(.int (1 : Int32))])) _
    exact retN X127 hx (t := .boolean) Bd.returns (by simp) (hb hby at_177) hr
  · show Q0 Z ns p0 q1 q2 q3 h0 n0 _ T127.heap _
    rw [eq127]
    exact ⟨rfl, N127, K0_122⟩
set_option maxRecDepth 65536 in
set_option maxHeartbeats 40000000 in
theorem rm0_n1 (l : Launch) (Z : State) (a0 : Array Value) (ns : Addr) (hG : Glob Z a0 ns) (ws : List Jvm.Cond) (p0 : Int32) (q1 : Int64) (q2 : Int64) (q3 : Int64) (h0 : Heap) (n0 : Nat) (Z0 : n0 ≤ h0.size) (X00 : Old Z n0 h0) (hn : (p0 &&& (3 : Int32)) = (1 : Int32)) :
    MetFree l x (head1 (Jvm.Cond.code x code maxLocals ret :: ws) room_1) (fun a U => a = #[(.int p0), (.long q1), (.long q2), (.long q3)] ∧ Z.Warmed39 U.vm ∧ U.heap = h0) (fun _ _ _ _ _ => True) (fun _ U o U' => ∃ v L, o = .returned v ∧ Q0 Z ns p0 q1 q2 q3 h0 n0 v U'.heap L ∧ FrameEnd U o U' L room_1.cells room_1.slots) := by
  obtain ⟨hw, O_ns, O_ens, O_scale, O_ratio⟩ := id hG
  have W : ∀ (i : Nat) {d : Jvm.Cond}, tables_1[i]? = some d → d.before a0 Z = true := fun i d h => hw d (List.mem_of_getElem? h)
  refine MetFree.of_bodySF (plainFor_of_name pn_com_example_cistern_cistern_CountersCheckedInPinLaw) hisR ?_
  intro p e s m args below meth c s₁ Bd hml0 hP hK
  obtain ⟨rfl, hZ, hh⟩ := hP
  have hx := Bd.exec
  have hby := Bd.bytes
  have hml : c.maxLocals = 14 := hml0
  have hown : s.vm.findClass "com/example/cistern/cistern/CountersCheckedInPinLaw" = some m.cls := findClass_of_methodNamed Bd.named
  have hnm := (name_of_methodNamed Bd.named Bd.method).1
  have X0 : Stand p l e room_1 s m #[(.int p0), (.long q1), (.long q2), (.long q3)] below meth c s₁ [] 0 0 := Stand.of_body Bd
  have e0 : s₁.heap = h0 := by rw [← hh, Bd.state]; rfl
  have N0 := Fr.nil n0
  have pre0 : ∀ t, Steps p.tables e below (s₁.setTop (mkF m 0 #[.val (.int p0), .val (.long q1), .second, .val (.long q2), .second, .val (.long q3), .second, .unset, .unset, .unset, .unset, .unset, .unset, .unset] [])) t → Steps p.tables e below (s₁.setTop (entryFrame m #[(.int p0), (.long q1), (.long q2), (.long q3)] maxLocals)) t := fun t kk_ => castTop (ef_code_IJJJ m p0 q1 q2 q3) kk_
  obtain ⟨T128, h128, X128, e128, E128, A128, D128, -, st128⟩ := newO X0 hx hZ hown (W 0 rfl) (W 1 rfl) (W 2 rfl) e0 (g := (mkF m 5 #[.val (.int p0), .val (.long q1), .second, .val (.long q2), .second, .val (.long q3), .second, .val (.int (p0 &&& (3 : Int32))), .unset, .unset, .unset, .unset, .unset, .unset] [])) rfl (hb hby at_5) (by decide) (by decide)
  obtain ⟨b128, g128⟩ : ∃ z, z = h0.size := ⟨_, rfl⟩
  rw [← g128] at A128 D128 st128
  have Z129 : n0 ≤ h128.size := Nat.le_trans Z0 E128.1
  have K0_129 : Keep h0 h128 [] := (Keep.refl h0 []).ext E128
  have O129 : Old Z n0 h128 := X00.ext E128
  have lo_b128 : h0.size ≤ b128 := Nat.le_of_eq g128.symm
  have g_b128 : n0 ≤ b128 := Nat.le_trans Z0 lo_b128
  have l0_b128 : h0.size ≤ b128 := Nat.le_trans (Keep.refl h0 []).1 lo_b128
  have F_requestCount_b128 : Fld Z h128 b128 "com/example/cistern/cistern/PoolState$Counters" "requestCount" "J" (.long (0 : Int64)) := D128 (Or.inl (W 22 rfl)) (ty := .long) (by decide)
  have F_requestNanos_b128 : Fld Z h128 b128 "com/example/cistern/cistern/PoolState$Counters" "requestNanos" "J" (.long (0 : Int64)) := D128 (Or.inl (W 26 rfl)) (ty := .long) (by decide)
  have F_hadToWaitCount_b128 : Fld Z h128 b128 "com/example/cistern/cistern/PoolState$Counters" "hadToWaitCount" "J" (.long (0 : Int64)) := D128 (Or.inl (W 33 rfl)) (ty := .long) (by decide)
  have F_waitNanos_b128 : Fld Z h128 b128 "com/example/cistern/cistern/PoolState$Counters" "waitNanos" "J" (.long (0 : Int64)) := D128 (Or.inl (W 37 rfl)) (ty := .long) (by decide)
  have F_badConnectionCount_b128 : Fld Z h128 b128 "com/example/cistern/cistern/PoolState$Counters" "badConnectionCount" "J" (.long (0 : Int64)) := D128 (Or.inl (W 41 rfl)) (ty := .long) (by decide)
  have F_claimedOverdueCount_b128 : Fld Z h128 b128 "com/example/cistern/cistern/PoolState$Counters" "claimedOverdueCount" "J" (.long (0 : Int64)) := D128 (Or.inl (W 45 rfl)) (ty := .long) (by decide)
  have F_overdueCheckoutNanos_b128 : Fld Z h128 b128 "com/example/cistern/cistern/PoolState$Counters" "overdueCheckoutNanos" "J" (.long (0 : Int64)) := D128 (Or.inl (W 49 rfl)) (ty := .long) (by decide)
  have F_checkoutNanos_b128 : Fld Z h128 b128 "com/example/cistern/cistern/PoolState$Counters" "checkoutNanos" "J" (.long (0 : Int64)) := D128 (Or.inl (W 53 rfl)) (ty := .long) (by decide)
  have F_checkoutCount_b128 : Fld Z h128 b128 "com/example/cistern/cistern/PoolState$Counters" "checkoutCount" "J" (.long (0 : Int64)) := D128 (Or.inl (W 55 rfl)) (ty := .long) (by decide)
  have F_connectionsOpened_b128 : Fld Z h128 b128 "com/example/cistern/cistern/PoolState$Counters" "connectionsOpened" "J" (.long (0 : Int64)) := D128 (Or.inl (W 65 rfl)) (ty := .long) (by decide)
  -- pc 9: com/example/cistern/cistern/PoolState$Counters.<init>
  obtain ⟨_, _, ⟨T130, L130, k130, n130⟩, -, X130, ⟨Lc130, hQ130, l130, y130, z130⟩, st130⟩ := X128.specialBack hx (y := y4) rfl hown (mvT hZ (W 3 rfl)) (mvT hZ (W 4 rfl)) (mvT hZ (W 5 rfl)) (by decide) (backOf (W := 1) (rmcti l Z a0 ns hG [] b128 h128 n0 Z129 O129) hZ (W 5 rfl) (W 2 rfl) (by decide) (by decide)) (g := (mkF m 9 #[.val (.int p0), .val (.long q1), .second, .val (.long q2), .second, .val (.long q3), .second, .val (.int (p0 &&& (3 : Int32))), .unset, .unset, .unset, .unset, .unset, .unset] [(.ref b128), (.ref b128)])) rfl (by rw [hml]; rfl) (Steps.refl _) (a := b128) (argsL := []) (rest := [(.ref b128)]) (lenOf pd___V rfl) rfl (by show 2 * 0 + _ ≤ _; exact Nat.le_of_eq rfl) (hb hby at_9) (fun _ _ => ⟨rfl, e128, (by decide : 1 + 0 ≤ _), (by decide : 10 + 0 ≤ _)⟩)
  dsimp only [Pt.U, Pt.locs, Pt.cells, Pt.slots] at X130 l130 y130 z130 st130 hQ130
  subst l130 y130 z130
  obtain ⟨rfl, N130q, eq130⟩ := hQ130
  have N130 := Fr.app N0 N130q
  obtain ⟨cq131, kq131, q131a, q131b, q131c⟩ := isOf hZ eq130 A128
  -- pc 23: com/example/cistern/cistern/PoolState$Counters.checkedIn
  obtain ⟨_, _, ⟨T131, L131, k131, n131⟩, -, X131, ⟨Lc131, hQ131, l131, y131, z131⟩, st131⟩ := X130.virtualBack hx (y := y10) (z := y10) hown (mvT hZ (W 93 rfl)) (mvT hZ (W 94 rfl)) (notFace_of_selects (args := #[]) (mvT hZ (W 96 rfl))) (mvT hZ (W 96 rfl)) (mvT hZ (W 95 rfl)) (by decide) (backOf (W := 0) (rmcheckedIn l Z a0 ns hG [] b128 q1 (0 : Int64) (0 : Int64) (0 : Int64) (0 : Int64) (0 : Int64) (0 : Int64) (0 : Int64) (0 : Int64) (0 : Int64) (0 : Int64) h128 n0 Z129 O129 A128 g_b128 F_requestCount_b128 F_requestNanos_b128 F_hadToWaitCount_b128 F_waitNanos_b128 F_badConnectionCount_b128 F_claimedOverdueCount_b128 F_overdueCheckoutNanos_b128 F_checkoutCount_b128 F_checkoutNanos_b128 F_connectionsOpened_b128) hZ (W 97 rfl) (W 2 rfl) (by decide) (by decide)) q131a q131c (g := (mkF m 23 #[.val (.int p0), .val (.long q1), .second, .val (.long q2), .second, .val (.long q3), .second, .val (.int (p0 &&& (3 : Int32))), .val (.ref b128), .unset, .unset, .unset, .unset, .unset] [(.long q1), (.ref b128)])) rfl (by rw [hml]; rfl) (Steps.refl _) (argsL := [(.long q1)]) (rest := []) (lenOf pd__J_V rfl) rfl (by show 2 * 0 + _ ≤ _; exact Nat.le_of_eq rfl) (hb hby at_23) (fun _ _ => ⟨rfl, eq130, (by decide : 1 + 0 ≤ _), (by decide : 10 + 0 ≤ _)⟩)
  dsimp only [Pt.U, Pt.locs, Pt.cells, Pt.slots] at X131 l131 y131 z131 st131 hQ131
  subst l131 y131 z131
  obtain ⟨rfl, N131q, K131, f131_0, f131_1, f131_2, f131_3, f131_4, f131_5, f131_6, f131_7, f131_8, f131_9, f131_10⟩ := hQ131
  have N131 := Fr.app N130 N131q
  have Z132 : n0 ≤ T131.heap.size := Nat.le_trans Z129 K131.1
  have K0_132 : Keep h0 T131.heap [] := K0_129.trans K131 (allS (Or.inr l0_b128) all0)
  have O132 : Old Z n0 T131.heap := O129.keep K131 (allS g_b128 all0)
  obtain ⟨cq133, kq133, q133a, q133b, q133c⟩ := isOf hZ rfl f131_0
  -- pc 56: com/example/cistern/cistern/PoolState$Counters.snapshot
  obtain ⟨_, _, ⟨T133, L133, k133, n133⟩, -, X133, ⟨Lc133, hQ133, l133, y133, z133⟩, st133⟩ := X131.virtualBack hx (y := y3) (z := y3) hown (mvT hZ (W 9 rfl)) (mvT hZ (W 10 rfl)) (notFace_of_selects (args := #[]) (mvT hZ (W 12 rfl))) (mvT hZ (W 12 rfl)) (mvT hZ (W 11 rfl)) (by decide) (backOf (W := 0) (rmsnap l Z a0 ns hG [] b128 (0 : Int32) (0 : Int32) (0 : Int32) (0 : Int64) (0 : Int64) (0 : Int64) (0 : Int64) (0 : Int64) (0 : Int64) (0 : Int64) ((0 : Int64) + (1 : Int64)) ((0 : Int64) + q1) (0 : Int64) T131.heap n0 Z132 O132 f131_1 f131_2 f131_3 f131_4 f131_5 f131_6 f131_7 f131_8 f131_9 f131_10) hZ (W 13 rfl) (W 2 rfl) (by decide) (by decide)) q133a q133c (g := (mkF m 56 #[.val (.int p0), .val (.long q1), .second, .val (.long q2), .second, .val (.long q3), .second, .val (.int (p0 &&& (3 : Int32))), .val (.ref b128), .unset, .unset, .unset, .unset, .unset] [(.int (0 : Int32)), (.int (0 : Int32)), (.int (0 : Int32)), (.ref b128)])) rfl (by rw [hml]; rfl) (Steps.refl _) (argsL := [(.int (0 : Int32)), (.int (0 : Int32)), (.int (0 : Int32))]) (rest := []) (lenOf pd__III_Lcom_example_cistern_cistern_PoolState_ rfl) rfl (by show 2 * 0 + _ ≤ _; exact Nat.le_of_eq rfl) (hb hby at_56) (fun _ _ => ⟨rfl, rfl, (by decide : 1 + 1 ≤ _), (by decide : 10 + 12 ≤ _)⟩)
  dsimp only [Pt.U, Pt.locs, Pt.cells, Pt.slots] at X133 l133 y133 z133 st133 hQ133
  subst l133 y133 z133
  obtain ⟨b_133, rfl, N133q, K133, f133_0, f133_1, f133_2, f133_3, f133_4, f133_5, f133_6, f133_7, f133_8, f133_9, f133_10, f133_11, f133_12, f133_13⟩ := hQ133
  have N133 := Fr.app N131 N133q
  have Z134 : n0 ≤ T133.heap.size := Nat.le_trans Z132 K133.1
  have K0_134 : Keep h0 T133.heap [] := K0_132.trans K133 all0
  have O134 : Old Z n0 T133.heap := O132.keep K133 all0
  have lo_b_133 : T131.heap.size ≤ b_133 := f133_0
  have g_b_133 : n0 ≤ b_133 := Nat.le_trans Z132 lo_b_133
  have l0_b_133 : h0.size ≤ b_133 := Nat.le_trans K0_132.1 lo_b_133
  obtain ⟨cq135, kq135, q135a, q135b, q135c⟩ := isOf hZ rfl f133_1
  -- pc 123: com/example/cistern/cistern/PoolState.getAverageCheckoutTime
  obtain ⟨_, _, ⟨T135, L135, k135, n135⟩, -, X135, ⟨Lc135, hQ135, l135, y135, z135⟩, st135⟩ := X133.virtualBack hx (y := y8) (z := y8) hown (mvT hZ (W 68 rfl)) (mvT hZ (W 69 rfl)) (notFace_of_selects (args := #[]) (mvT hZ (W 71 rfl))) (mvT hZ (W 71 rfl)) (mvT hZ (W 70 rfl)) (by decide) (backOf (W := 0) (rmG_averageCheckoutTime l Z a0 ns hG [] b_133 (own_avg ((0 : Int64) + q1) ((0 : Int64) + (1 : Int64))) T133.heap n0 Z134 O134 f133_9) hZ (W 72 rfl) (W 16 rfl) (by decide) (by decide)) q135a q135c (g := (mkF m 123 #[.val (.int p0), .val (.long q1), .second, .val (.long q2), .second, .val (.long q3), .second, .val (.int (p0 &&& (3 : Int32))), .val (.ref b128), .val (.ref b_133), .val (.long ((0 : Int64) + q1)), .second, .val (.long ((((0 : Int64) + q1) / ((p0 &&& (3 : Int32)).toInt64)) / (1000000 : Int64))), .second] [(.ref b_133)])) rfl (by rw [hml]; rfl) (Steps.refl _) (argsL := []) (rest := []) (lenOf pd___J rfl) rfl (by show 2 * 0 + _ ≤ _; exact Nat.le_of_eq rfl) (hb hby at_123) (fun _ _ => ⟨rfl, rfl, (by decide : 2 + 0 ≤ _), (by decide : 22 + 0 ≤ _)⟩)
  dsimp only [Pt.U, Pt.locs, Pt.cells, Pt.slots] at X135 l135 y135 z135 st135 hQ135
  subst l135 y135 z135
  obtain ⟨rfl, N135q, eq135⟩ := hQ135
  have N135 := Fr.app N133 N135q
  obtain ⟨cq136, kq136, q136a, q136b, q136c⟩ := isOf hZ eq135 f133_1
  -- pc 134: com/example/cistern/cistern/PoolState.getClaimedOverdueConnectionCount
  obtain ⟨_, _, ⟨T136, L136, k136, n136⟩, -, X136, ⟨Lc136, hQ136, l136, y136, z136⟩, st136⟩ := X135.virtualBack hx (y := y7) (z := y7) hown (mvT hZ (W 73 rfl)) (mvT hZ (W 74 rfl)) (notFace_of_selects (args := #[]) (mvT hZ (W 76 rfl))) (mvT hZ (W 76 rfl)) (mvT hZ (W 75 rfl)) (by decide) (backOf (W := 0) (rmG_claimedOverdueConnectionCount l Z a0 ns hG [] b_133 (0 : Int64) T133.heap n0 Z134 O134 f133_7) hZ (W 77 rfl) (W 16 rfl) (by decide) (by decide)) q136a q136c (g := (mkF m 134 #[.val (.int p0), .val (.long q1), .second, .val (.long q2), .second, .val (.long q3), .second, .val (.int (p0 &&& (3 : Int32))), .val (.ref b128), .val (.ref b_133), .val (.long ((0 : Int64) + q1)), .second, .val (.long ((((0 : Int64) + q1) / ((p0 &&& (3 : Int32)).toInt64)) / (1000000 : Int64))), .second] [(.ref b_133)])) rfl (by rw [hml]; rfl) (Steps.refl _) (argsL := []) (rest := []) (lenOf pd___J rfl) rfl (by show 2 * 0 + _ ≤ _; exact Nat.le_of_eq rfl) (hb hby at_134) (fun _ _ => ⟨rfl, eq135, (by decide : 2 + 0 ≤ _), (by decide : 22 + 0 ≤ _)⟩)
  dsimp only [Pt.U, Pt.locs, Pt.cells, Pt.slots] at X136 l136 y136 z136 st136 hQ136
  subst l136 y136 z136
  obtain ⟨rfl, N136q, eq136⟩ := hQ136
  have N136 := Fr.app N135 N136q
  obtain ⟨cq137, kq137, q137a, q137b, q137c⟩ := isOf hZ eq136 f133_1
  -- pc 144: com/example/cistern/cistern/PoolState.getRequestCount
  obtain ⟨_, _, ⟨T137, L137, k137, n137⟩, -, X137, ⟨Lc137, hQ137, l137, y137, z137⟩, st137⟩ := X136.virtualBack hx (y := y5) (z := y5) hown (mvT hZ (W 78 rfl)) (mvT hZ (W 79 rfl)) (notFace_of_selects (args := #[]) (mvT hZ (W 81 rfl))) (mvT hZ (W 81 rfl)) (mvT hZ (W 80 rfl)) (by decide) (backOf (W := 0) (rmG_requestCount l Z a0 ns hG [] b_133 (0 : Int64) T133.heap n0 Z134 O134 f133_2) hZ (W 82 rfl) (W 16 rfl) (by decide) (by decide)) q137a q137c (g := (mkF m 144 #[.val (.int p0), .val (.long q1), .second, .val (.long q2), .second, .val (.long q3), .second, .val (.int (p0 &&& (3 : Int32))), .val (.ref b128), .val (.ref b_133), .val (.long ((0 : Int64) + q1)), .second, .val (.long ((((0 : Int64) + q1) / ((p0 &&& (3 : Int32)).toInt64)) / (1000000 : Int64))), .second] [(.ref b_133)])) rfl (by rw [hml]; rfl) (Steps.refl _) (argsL := []) (rest := []) (lenOf pd___J rfl) rfl (by show 2 * 0 + _ ≤ _; exact Nat.le_of_eq rfl) (hb hby at_144) (fun _ _ => ⟨rfl, eq136, (by decide : 2 + 0 ≤ _), (by decide : 22 + 0 ≤ _)⟩)
  dsimp only [Pt.U, Pt.locs, Pt.cells, Pt.slots] at X137 l137 y137 z137 st137 hQ137
  subst l137 y137 z137
  obtain ⟨rfl, N137q, eq137⟩ := hQ137
  have N137 := Fr.app N136 N137q
  obtain ⟨cq138, kq138, q138a, q138b, q138c⟩ := isOf hZ eq137 f133_1
  -- pc 154: com/example/cistern/cistern/PoolState.getHadToWaitCount
  obtain ⟨_, _, ⟨T138, L138, k138, n138⟩, -, X138, ⟨Lc138, hQ138, l138, y138, z138⟩, st138⟩ := X137.virtualBack hx (y := y6) (z := y6) hown (mvT hZ (W 83 rfl)) (mvT hZ (W 84 rfl)) (notFace_of_selects (args := #[]) (mvT hZ (W 86 rfl))) (mvT hZ (W 86 rfl)) (mvT hZ (W 85 rfl)) (by decide) (backOf (W := 0) (rmG_hadToWaitCount l Z a0 ns hG [] b_133 (0 : Int64) T133.heap n0 Z134 O134 f133_4) hZ (W 87 rfl) (W 16 rfl) (by decide) (by decide)) q138a q138c (g := (mkF m 154 #[.val (.int p0), .val (.long q1), .second, .val (.long q2), .second, .val (.long q3), .second, .val (.int (p0 &&& (3 : Int32))), .val (.ref b128), .val (.ref b_133), .val (.long ((0 : Int64) + q1)), .second, .val (.long ((((0 : Int64) + q1) / ((p0 &&& (3 : Int32)).toInt64)) / (1000000 : Int64))), .second] [(.ref b_133)])) rfl (by rw [hml]; rfl) (Steps.refl _) (argsL := []) (rest := []) (lenOf pd___J rfl) rfl (by show 2 * 0 + _ ≤ _; exact Nat.le_of_eq rfl) (hb hby at_154) (fun _ _ => ⟨rfl, eq137, (by decide : 2 + 0 ≤ _), (by decide : 22 + 0 ≤ _)⟩)
  dsimp only [Pt.U, Pt.locs, Pt.cells, Pt.slots] at X138 l138 y138 z138 st138 hQ138
  subst l138 y138 z138
  obtain ⟨rfl, N138q, eq138⟩ := hQ138
  have N138 := Fr.app N137 N138q
  obtain ⟨cq139, kq139, q139a, q139b, q139c⟩ := isOf hZ eq138 f133_1
  -- pc 164: com/example/cistern/cistern/PoolState.getConnectionsOpened
  obtain ⟨_, _, ⟨T139, L139, k139, n139⟩, -, X139, ⟨Lc139, hQ139, l139, y139, z139⟩, st139⟩ := X138.virtualBack hx (y := y9) (z := y9) hown (mvT hZ (W 88 rfl)) (mvT hZ (W 89 rfl)) (notFace_of_selects (args := #[]) (mvT hZ (W 91 rfl))) (mvT hZ (W 91 rfl)) (mvT hZ (W 90 rfl)) (by decide) (backOf (W := 0) (rmG_connectionsOpened l Z a0 ns hG [] b_133 (0 : Int64) T133.heap n0 Z134 O134 f133_13) hZ (W 92 rfl) (W 16 rfl) (by decide) (by decide)) q139a q139c (g := (mkF m 164 #[.val (.int p0), .val (.long q1), .second, .val (.long q2), .second, .val (.long q3), .second, .val (.int (p0 &&& (3 : Int32))), .val (.ref b128), .val (.ref b_133), .val (.long ((0 : Int64) + q1)), .second, .val (.long ((((0 : Int64) + q1) / ((p0 &&& (3 : Int32)).toInt64)) / (1000000 : Int64))), .second] [(.ref b_133)])) rfl (by rw [hml]; rfl) (Steps.refl _) (argsL := []) (rest := []) (lenOf pd___J rfl) rfl (by show 2 * 0 + _ ≤ _; exact Nat.le_of_eq rfl) (hb hby at_164) (fun _ _ => ⟨rfl, eq138, (by decide : 2 + 0 ≤ _), (by decide : 22 + 0 ≤ _)⟩)
  dsimp only [Pt.U, Pt.locs, Pt.cells, Pt.slots] at X139 l139 y139 z139 st139 hQ139
  subst l139 y139 z139
  obtain ⟨rfl, N139q, eq139⟩ := hQ139
  have N139 := Fr.app N138 N139q
  obtain ⟨fs, hr, hrun, hended, hW, hsame⟩ := X139.leave (v := some (.int (1 : Int32))) (fun h => by rw [Bd.returns] at h; cases h)
  refine ⟨_, _, pre0 _ ?_, hrun, hended, _, _, rfl, ?_, ⟨_, rfl⟩, hW, hsame.mono (Nat.le_of_ble_eq_true rfl) (Nat.le_of_ble_eq_true rfl)⟩
  · show Steps p.tables e below (s₁.setTop (mkF m 0 #[.val (.int p0), .val (.long q1), .second, .val (.long q2), .second, .val (.long q3), .second, .unset, .unset, .unset, .unset, .unset, .unset, .unset] [])) _
    refine XS.iloadN X0.here hx rfl (hb hby at_0) rfl ?_
    show Steps p.tables e below (s₁.setTop (mkF m 1 #[.val (.int p0), .val (.long q1), .second, .val (.long q2), .second, .val (.long q3), .second, .unset, .unset, .unset, .unset, .unset, .unset, .unset] [(.int p0)])) _
    refine XS.iconst X0.here hx rfl (hb hby at_1) ?_
    show Steps p.tables e below (s₁.setTop (mkF m 2 #[.val (.int p0), .val (.long q1), .second, .val (.long q2), .second, .val (.long q3), .second, .unset, .unset, .unset, .unset, .unset, .unset, .unset] [(.int (3 : Int32)), (.int p0)])) _
    refine XS.iand X0.here hx rfl (hb hby at_2) rfl ?_
    show Steps p.tables e below (s₁.setTop (mkF m 3 #[.val (.int p0), .val (.long q1), .second, .val (.long q2), .second, .val (.long q3), .second, .unset, .unset, .unset, .unset, .unset, .unset, .unset] [(.int (p0 &&& (3 : Int32)))])) _
    refine XS.istore X0.here hx rfl (hb hby at_3) rfl (l' := #[.val (.int p0), .val (.long q1), .second, .val (.long q2), .second, .val (.long q3), .second, .val (.int (p0 &&& (3 : Int32))), .unset, .unset, .unset, .unset, .unset, .unset]) rfl ?_
    show Steps p.tables e below (s₁.setTop (mkF m 5 #[.val (.int p0), .val (.long q1), .second, .val (.long q2), .second, .val (.long q3), .second, .val (.int (p0 &&& (3 : Int32))), .unset, .unset, .unset, .unset, .unset, .unset] [])) _
    refine st128 _ ?_
    show Steps p.tables e below (T128.setTop (mkF m 8 #[.val (.int p0), .val (.long q1), .second, .val (.long q2), .second, .val (.long q3), .second, .val (.int (p0 &&& (3 : Int32))), .unset, .unset, .unset, .unset, .unset, .unset] [(.ref b128)])) _
    refine XS.dup X128.here hx rfl (hb hby at_8) rfl rfl ?_
    show Steps p.tables e below (T128.setTop (mkF m 9 #[.val (.int p0), .val (.long q1), .second, .val (.long q2), .second, .val (.long q3), .second, .val (.int (p0 &&& (3 : Int32))), .unset, .unset, .unset, .unset, .unset, .unset] [(.ref b128), (.ref b128)])) _
    refine st130.trans ?_
    show Steps p.tables e below (T130.setTop (mkF m 12 #[.val (.int p0), .val (.long q1), .second, .val (.long q2), .second, .val (.long q3), .second, .val (.int (p0 &&& (3 : Int32))), .unset, .unset, .unset, .unset, .unset, .unset] [(.ref b128)])) _
    refine XS.astore X130.here hx rfl (hb hby at_12) rfl rfl (l' := #[.val (.int p0), .val (.long q1), .second, .val (.long q2), .second, .val (.long q3), .second, .val (.int (p0 &&& (3 : Int32))), .val (.ref b128), .unset, .unset, .unset, .unset, .unset]) rfl ?_
    show Steps p.tables e below (T130.setTop (mkF m 14 #[.val (.int p0), .val (.long q1), .second, .val (.long q2), .second, .val (.long q3), .second, .val (.int (p0 &&& (3 : Int32))), .val (.ref b128), .unset, .unset, .unset, .unset, .unset] [])) _
    refine XS.iload X130.here hx rfl (hb hby at_14) rfl ?_
    show Steps p.tables e below (T130.setTop (mkF m 16 #[.val (.int p0), .val (.long q1), .second, .val (.long q2), .second, .val (.long q3), .second, .val (.int (p0 &&& (3 : Int32))), .val (.ref b128), .unset, .unset, .unset, .unset, .unset] [(.int (p0 &&& (3 : Int32)))])) _
    refine XS.iconst X130.here hx rfl (hb hby at_16) ?_
    show Steps p.tables e below (T130.setTop (mkF m 17 #[.val (.int p0), .val (.long q1), .second, .val (.long q2), .second, .val (.long q3), .second, .val (.int (p0 &&& (3 : Int32))), .val (.ref b128), .unset, .unset, .unset, .unset, .unset] [(.int (1 : Int32)), (.int (p0 &&& (3 : Int32)))])) _
    refine XS.icmpNo X130.here hx rfl (hb hby at_17) rfl (flt (by rw [hn] <;> decide : ¬ ((p0 &&& (3 : Int32)) < (1 : Int32)))).1 ?_
    show Steps p.tables e below (T130.setTop (mkF m 20 #[.val (.int p0), .val (.long q1), .second, .val (.long q2), .second, .val (.long q3), .second, .val (.int (p0 &&& (3 : Int32))), .val (.ref b128), .unset, .unset, .unset, .unset, .unset] [])) _
    refine XS.aload X130.here hx rfl (hb hby at_20) rfl rfl ?_
    show Steps p.tables e below (T130.setTop (mkF m 22 #[.val (.int p0), .val (.long q1), .second, .val (.long q2), .second, .val (.long q3), .second, .val (.int (p0 &&& (3 : Int32))), .val (.ref b128), .unset, .unset, .unset, .unset, .unset] [(.ref b128)])) _
    refine XS.lloadN X130.here hx rfl (hb hby at_22) rfl ?_
    show Steps p.tables e below (T130.setTop (mkF m 23 #[.val (.int p0), .val (.long q1), .second, .val (.long q2), .second, .val (.long q3), .second, .val (.int (p0 &&& (3 : Int32))), .val (.ref b128), .unset, .unset, .unset, .unset, .unset] [(.long q1), (.ref b128)])) _
    refine st131.trans ?_
    show Steps p.tables e below (T131.setTop (mkF m 26 #[.val (.int p0), .val (.long q1), .second, .val (.long q2), .second, .val (.long q3), .second, .val (.int (p0 &&& (3 : Int32))), .val (.ref b128), .unset, .unset, .unset, .unset, .unset] [])) _
    refine XS.iload X131.here hx rfl (hb hby at_26) rfl ?_
    show Steps p.tables e below (T131.setTop (mkF m 28 #[.val (.int p0), .val (.long q1), .second, .val (.long q2), .second, .val (.long q3), .second, .val (.int (p0 &&& (3 : Int32))), .val (.ref b128), .unset, .unset, .unset, .unset, .unset] [(.int (p0 &&& (3 : Int32)))])) _
    refine XS.iconst X131.here hx rfl (hb hby at_28) ?_
    show Steps p.tables e below (T131.setTop (mkF m 29 #[.val (.int p0), .val (.long q1), .second, .val (.long q2), .second, .val (.long q3), .second, .val (.int (p0 &&& (3 : Int32))), .val (.ref b128), .unset, .unset, .unset, .unset, .unset] [(.int (2 : Int32)), (.int (p0 &&& (3 : Int32)))])) _
    refine XS.icmpYes X131.here hx rfl (pc0 := 29) (pc' := 38) rfl (hb hby at_29) rfl (tlt (by rw [hn] <;> decide : (p0 &&& (3 : Int32)) < (2 : Int32))).1 (by decide) (by decide) ?_
    show Steps p.tables e below (T131.setTop (mkF m 38 #[.val (.int p0), .val (.long q1), .second, .val (.long q2), .second, .val (.long q3), .second, .val (.int (p0 &&& (3 : Int32))), .val (.ref b128), .unset, .unset, .unset, .unset, .unset] [])) _
    refine XS.iload X131.here hx rfl (hb hby at_38) rfl ?_
    show Steps p.tables e below (T131.setTop (mkF m 40 #[.val (.int p0), .val (.long q1), .second, .val (.long q2), .second, .val (.long q3), .second, .val (.int (p0 &&& (3 : Int32))), .val (.ref b128), .unset, .unset, .unset, .unset, .unset] [(.int (p0 &&& (3 : Int32)))])) _
    refine XS.iconst X131.here hx rfl (hb hby at_40) ?_
    show Steps p.tables e below (T131.setTop (mkF m 41 #[.val (.int p0), .val (.long q1), .second, .val (.long q2), .second, .val (.long q3), .second, .val (.int (p0 &&& (3 : Int32))), .val (.ref b128), .unset, .unset, .unset, .unset, .unset] [(.int (3 : Int32)), (.int (p0 &&& (3 : Int32)))])) _
    refine XS.icmpYes X131.here hx rfl (pc0 := 41) (pc' := 51) rfl (hb hby at_41) rfl (tlt (by rw [hn] <;> decide : (p0 &&& (3 : Int32)) < (3 : Int32))).1 (by decide) (by decide) ?_
    show Steps p.tables e below (T131.setTop (mkF m 51 #[.val (.int p0), .val (.long q1), .second, .val (.long q2), .second, .val (.long q3), .second, .val (.int (p0 &&& (3 : Int32))), .val (.ref b128), .unset, .unset, .unset, .unset, .unset] [])) _
    refine XS.aload X131.here hx rfl (hb hby at_51) rfl rfl ?_
    show Steps p.tables e below (T131.setTop (mkF m 53 #[.val (.int p0), .val (.long q1), .second, .val (.long q2), .second, .val (.long q3), .second, .val (.int (p0 &&& (3 : Int32))), .val (.ref b128), .unset, .unset, .unset, .unset, .unset] [(.ref b128)])) _
    refine XS.iconst X131.here hx rfl (hb hby at_53) ?_
    show Steps p.tables e below (T131.setTop (mkF m 54 #[.val (.int p0), .val (.long q1), .second, .val (.long q2), .second, .val (.long q3), .second, .val (.int (p0 &&& (3 : Int32))), .val (.ref b128), .unset, .unset, .unset, .unset, .unset] [(.int (0 : Int32)), (.ref b128)])) _
    refine XS.iconst X131.here hx rfl (hb hby at_54) ?_
    show Steps p.tables e below (T131.setTop (mkF m 55 #[.val (.int p0), .val (.long q1), .second, .val (.long q2), .second, .val (.long q3), .second, .val (.int (p0 &&& (3 : Int32))), .val (.ref b128), .unset, .unset, .unset, .unset, .unset] [(.int (0 : Int32)), (.int (0 : Int32)), (.ref b128)])) _
    refine XS.iconst X131.here hx rfl (hb hby at_55) ?_
    show Steps p.tables e below (T131.setTop (mkF m 56 #[.val (.int p0), .val (.long q1), .second, .val (.long q2), .second, .val (.long q3), .second, .val (.int (p0 &&& (3 : Int32))), .val (.ref b128), .unset, .unset, .unset, .unset, .unset] [(.int (0 : Int32)), (.int (0 : Int32)), (.int (0 : Int32)), (.ref b128)])) _
    refine st133.trans ?_
    show Steps p.tables e below (T133.setTop (mkF m 59 #[.val (.int p0), .val (.long q1), .second, .val (.long q2), .second, .val (.long q3), .second, .val (.int (p0 &&& (3 : Int32))), .val (.ref b128), .unset, .unset, .unset, .unset, .unset] [(.ref b_133)])) _
    refine XS.astore X133.here hx rfl (hb hby at_59) rfl rfl (l' := #[.val (.int p0), .val (.long q1), .second, .val (.long q2), .second, .val (.long q3), .second, .val (.int (p0 &&& (3 : Int32))), .val (.ref b128), .val (.ref b_133), .unset, .unset, .unset, .unset]) rfl ?_
    show Steps p.tables e below (T133.setTop (mkF m 61 #[.val (.int p0), .val (.long q1), .second, .val (.long q2), .second, .val (.long q3), .second, .val (.int (p0 &&& (3 : Int32))), .val (.ref b128), .val (.ref b_133), .unset, .unset, .unset, .unset] [])) _
    refine XS.lconst X133.here hx rfl (hb hby at_61) ?_
    show Steps p.tables e below (T133.setTop (mkF m 62 #[.val (.int p0), .val (.long q1), .second, .val (.long q2), .second, .val (.long q3), .second, .val (.int (p0 &&& (3 : Int32))), .val (.ref b128), .val (.ref b_133), .unset, .unset, .unset, .unset] [(.long (0 : Int64))])) _
    refine XS.lstore X133.here hx rfl (hb hby at_62) rfl (l' := #[.val (.int p0), .val (.long q1), .second, .val (.long q2), .second, .val (.long q3), .second, .val (.int (p0 &&& (3 : Int32))), .val (.ref b128), .val (.ref b_133), .val (.long (0 : Int64)), .second, .unset, .unset]) rfl ?_
    show Steps p.tables e below (T133.setTop (mkF m 64 #[.val (.int p0), .val (.long q1), .second, .val (.long q2), .second, .val (.long q3), .second, .val (.int (p0 &&& (3 : Int32))), .val (.ref b128), .val (.ref b_133), .val (.long (0 : Int64)), .second, .unset, .unset] [])) _
    refine XS.iload X133.here hx rfl (hb hby at_64) rfl ?_
    show Steps p.tables e below (T133.setTop (mkF m 66 #[.val (.int p0), .val (.long q1), .second, .val (.long q2), .second, .val (.long q3), .second, .val (.int (p0 &&& (3 : Int32))), .val (.ref b128), .val (.ref b_133), .val (.long (0 : Int64)), .second, .unset, .unset] [(.int (p0 &&& (3 : Int32)))])) _
    refine XS.iconst X133.here hx rfl (hb hby at_66) ?_
    show Steps p.tables e below (T133.setTop (mkF m 67 #[.val (.int p0), .val (.long q1), .second, .val (.long q2), .second, .val (.long q3), .second, .val (.int (p0 &&& (3 : Int32))), .val (.ref b128), .val (.ref b_133), .val (.long (0 : Int64)), .second, .unset, .unset] [(.int (1 : Int32)), (.int (p0 &&& (3 : Int32)))])) _
    refine XS.icmpNo X133.here hx rfl (hb hby at_67) rfl (flt (by rw [hn] <;> decide : ¬ ((p0 &&& (3 : Int32)) < (1 : Int32)))).1 ?_
    show Steps p.tables e below (T133.setTop (mkF m 70 #[.val (.int p0), .val (.long q1), .second, .val (.long q2), .second, .val (.long q3), .second, .val (.int (p0 &&& (3 : Int32))), .val (.ref b128), .val (.ref b_133), .val (.long (0 : Int64)), .second, .unset, .unset] [])) _
    refine XS.lload X133.here hx rfl (hb hby at_70) rfl ?_
    show Steps p.tables e below (T133.setTop (mkF m 72 #[.val (.int p0), .val (.long q1), .second, .val (.long q2), .second, .val (.long q3), .second, .val (.int (p0 &&& (3 : Int32))), .val (.ref b128), .val (.ref b_133), .val (.long (0 : Int64)), .second, .unset, .unset] [(.long (0 : Int64))])) _
    refine XS.lloadN X133.here hx rfl (hb hby at_72) rfl ?_
    show Steps p.tables e below (T133.setTop (mkF m 73 #[.val (.int p0), .val (.long q1), .second, .val (.long q2), .second, .val (.long q3), .second, .val (.int (p0 &&& (3 : Int32))), .val (.ref b128), .val (.ref b_133), .val (.long (0 : Int64)), .second, .unset, .unset] [(.long q1), (.long (0 : Int64))])) _
    refine XS.ladd X133.here hx rfl (hb hby at_73) rfl ?_
    show Steps p.tables e below (T133.setTop (mkF m 74 #[.val (.int p0), .val (.long q1), .second, .val (.long q2), .second, .val (.long q3), .second, .val (.int (p0 &&& (3 : Int32))), .val (.ref b128), .val (.ref b_133), .val (.long (0 : Int64)), .second, .unset, .unset] [(.long ((0 : Int64) + q1))])) _
    refine XS.lstore X133.here hx rfl (hb hby at_74) rfl (l' := #[.val (.int p0), .val (.long q1), .second, .val (.long q2), .second, .val (.long q3), .second, .val (.int (p0 &&& (3 : Int32))), .val (.ref b128), .val (.ref b_133), .val (.long ((0 : Int64) + q1)), .second, .unset, .unset]) rfl ?_
    show Steps p.tables e below (T133.setTop (mkF m 76 #[.val (.int p0), .val (.long q1), .second, .val (.long q2), .second, .val (.long q3), .second, .val (.int (p0 &&& (3 : Int32))), .val (.ref b128), .val (.ref b_133), .val (.long ((0 : Int64) + q1)), .second, .unset, .unset] [])) _
    refine XS.iload X133.here hx rfl (hb hby at_76) rfl ?_
    show Steps p.tables e below (T133.setTop (mkF m 78 #[.val (.int p0), .val (.long q1), .second, .val (.long q2), .second, .val (.long q3), .second, .val (.int (p0 &&& (3 : Int32))), .val (.ref b128), .val (.ref b_133), .val (.long ((0 : Int64) + q1)), .second, .unset, .unset] [(.int (p0 &&& (3 : Int32)))])) _
    refine XS.iconst X133.here hx rfl (hb hby at_78) ?_
    show Steps p.tables e below (T133.setTop (mkF m 79 #[.val (.int p0), .val (.long q1), .second, .val (.long q2), .second, .val (.long q3), .second, .val (.int (p0 &&& (3 : Int32))), .val (.ref b128), .val (.ref b_133), .val (.long ((0 : Int64) + q1)), .second, .unset, .unset] [(.int (2 : Int32)), (.int (p0 &&& (3 : Int32)))])) _
    refine XS.icmpYes X133.here hx rfl (pc0 := 79) (pc' := 88) rfl (hb hby at_79) rfl (tlt (by rw [hn] <;> decide : (p0 &&& (3 : Int32)) < (2 : Int32))).1 (by decide) (by decide) ?_
    show Steps p.tables e below (T133.setTop (mkF m 88 #[.val (.int p0), .val (.long q1), .second, .val (.long q2), .second, .val (.long q3), .second, .val (.int (p0 &&& (3 : Int32))), .val (.ref b128), .val (.ref b_133), .val (.long ((0 : Int64) + q1)), .second, .unset, .unset] [])) _
    refine XS.iload X133.here hx rfl (hb hby at_88) rfl ?_
    show Steps p.tables e below (T133.setTop (mkF m 90 #[.val (.int p0), .val (.long q1), .second, .val (.long q2), .second, .val (.long q3), .second, .val (.int (p0 &&& (3 : Int32))), .val (.ref b128), .val (.ref b_133), .val (.long ((0 : Int64) + q1)), .second, .unset, .unset] [(.int (p0 &&& (3 : Int32)))])) _
    refine XS.iconst X133.here hx rfl (hb hby at_90) ?_
    show Steps p.tables e below (T133.setTop (mkF m 91 #[.val (.int p0), .val (.long q1), .second, .val (.long q2), .second, .val (.long q3), .second, .val (.int (p0 &&& (3 : Int32))), .val (.ref b128), .val (.ref b_133), .val (.long ((0 : Int64) + q1)), .second, .unset, .unset] [(.int (3 : Int32)), (.int (p0 &&& (3 : Int32)))])) _
    refine XS.icmpYes X133.here hx rfl (pc0 := 91) (pc' := 101) rfl (hb hby at_91) rfl (tlt (by rw [hn] <;> decide : (p0 &&& (3 : Int32)) < (3 : Int32))).1 (by decide) (by decide) ?_
    show Steps p.tables e below (T133.setTop (mkF m 101 #[.val (.int p0), .val (.long q1), .second, .val (.long q2), .second, .val (.long q3), .second, .val (.int (p0 &&& (3 : Int32))), .val (.ref b128), .val (.ref b_133), .val (.long ((0 : Int64) + q1)), .second, .unset, .unset] [])) _
    refine XS.lconst X133.here hx rfl (hb hby at_101) ?_
    show Steps p.tables e below (T133.setTop (mkF m 102 #[.val (.int p0), .val (.long q1), .second, .val (.long q2), .second, .val (.long q3), .second, .val (.int (p0 &&& (3 : Int32))), .val (.ref b128), .val (.ref b_133), .val (.long ((0 : Int64) + q1)), .second, .unset, .unset] [(.long (0 : Int64))])) _
    refine XS.lstore X133.here hx rfl (hb hby at_102) rfl (l' := #[.val (.int p0), .val (.long q1), .second, .val (.long q2), .second, .val (.long q3), .second, .val (.int (p0 &&& (3 : Int32))), .val (.ref b128), .val (.ref b_133), .val (.long ((0 : Int64) + q1)), .second, .val (.long (0 : Int64)), .second]) rfl ?_
    show Steps p.tables e below (T133.setTop (mkF m 104 #[.val (.int p0), .val (.long q1), .second, .val (.long q2), .second, .val (.long q3), .second, .val (.int (p0 &&& (3 : Int32))), .val (.ref b128), .val (.ref b_133), .val (.long ((0 : Int64) + q1)), .second, .val (.long (0 : Int64)), .second] [])) _
    refine XS.iload X133.here hx rfl (hb hby at_104) rfl ?_
    show Steps p.tables e below (T133.setTop (mkF m 106 #[.val (.int p0), .val (.long q1), .second, .val (.long q2), .second, .val (.long q3), .second, .val (.int (p0 &&& (3 : Int32))), .val (.ref b128), .val (.ref b_133), .val (.long ((0 : Int64) + q1)), .second, .val (.long (0 : Int64)), .second] [(.int (p0 &&& (3 : Int32)))])) _
    refine XS.ifNo X133.here hx rfl (hb hby at_106) rfl ((if0 _ _).trans (feq (by rw [hn] <;> decide : ¬ ((p0 &&& (3 : Int32)) = (0 : Int32)))).1) ?_
    show Steps p.tables e below (T133.setTop (mkF m 109 #[.val (.int p0), .val (.long q1), .second, .val (.long q2), .second, .val (.long q3), .second, .val (.int (p0 &&& (3 : Int32))), .val (.ref b128), .val (.ref b_133), .val (.long ((0 : Int64) + q1)), .second, .val (.long (0 : Int64)), .second] [])) _
    refine XS.lload X133.here hx rfl (hb hby at_109) rfl ?_
    show Steps p.tables e below (T133.setTop (mkF m 111 #[.val (.int p0), .val (.long q1), .second, .val (.long q2), .second, .val (.long q3), .second, .val (.int (p0 &&& (3 : Int32))), .val (.ref b128), .val (.ref b_133), .val (.long ((0 : Int64) + q1)), .second, .val (.long (0 : Int64)), .second] [(.long ((0 : Int64) + q1))])) _
    refine XS.iload X133.here hx rfl (hb hby at_111) rfl ?_
    show Steps p.tables e below (T133.setTop (mkF m 113 #[.val (.int p0), .val (.long q1), .second, .val (.long q2), .second, .val (.long q3), .second, .val (.int (p0 &&& (3 : Int32))), .val (.ref b128), .val (.ref b_133), .val (.long ((0 : Int64) + q1)), .second, .val (.long (0 : Int64)), .second] [(.int (p0 &&& (3 : Int32))), (.long ((0 : Int64) + q1))])) _
    refine XS.i2l X133.here hx rfl (hb hby at_113) rfl ?_
    show Steps p.tables e below (T133.setTop (mkF m 114 #[.val (.int p0), .val (.long q1), .second, .val (.long q2), .second, .val (.long q3), .second, .val (.int (p0 &&& (3 : Int32))), .val (.ref b128), .val (.ref b_133), .val (.long ((0 : Int64) + q1)), .second, .val (.long (0 : Int64)), .second] [(.long ((p0 &&& (3 : Int32)).toInt64)), (.long ((0 : Int64) + q1))])) _
    refine XS.ldiv X133.here hx rfl (hb hby at_114) rfl (by rw [hn] <;> decide) ?_
    show Steps p.tables e below (T133.setTop (mkF m 115 #[.val (.int p0), .val (.long q1), .second, .val (.long q2), .second, .val (.long q3), .second, .val (.int (p0 &&& (3 : Int32))), .val (.ref b128), .val (.ref b_133), .val (.long ((0 : Int64) + q1)), .second, .val (.long (0 : Int64)), .second] [(.long (((0 : Int64) + q1) / ((p0 &&& (3 : Int32)).toInt64)))])) _
    refine X133.ldc2Long hx hown (mvT hZ (W 112 rfl)) (g := (mkF m 115 #[.val (.int p0), .val (.long q1), .second, .val (.long q2), .second, .val (.long q3), .second, .val (.int (p0 &&& (3 : Int32))), .val (.ref b128), .val (.ref b_133), .val (.long ((0 : Int64) + q1)), .second, .val (.long (0 : Int64)), .second] [(.long (((0 : Int64) + q1) / ((p0 &&& (3 : Int32)).toInt64)))])) rfl (hb hby at_115) _ ?_
    show Steps p.tables e below (T133.setTop (mkF m 118 #[.val (.int p0), .val (.long q1), .second, .val (.long q2), .second, .val (.long q3), .second, .val (.int (p0 &&& (3 : Int32))), .val (.ref b128), .val (.ref b_133), .val (.long ((0 : Int64) + q1)), .second, .val (.long (0 : Int64)), .second] [(.long (1000000 : Int64)), (.long (((0 : Int64) + q1) / ((p0 &&& (3 : Int32)).toInt64)))])) _
    refine XS.ldiv X133.here hx rfl (hb hby at_118) rfl (by decide) ?_
    show Steps p.tables e below (T133.setTop (mkF m 119 #[.val (.int p0), .val (.long q1), .second, .val (.long q2), .second, .val (.long q3), .second, .val (.int (p0 &&& (3 : Int32))), .val (.ref b128), .val (.ref b_133), .val (.long ((0 : Int64) + q1)), .second, .val (.long (0 : Int64)), .second] [(.long ((((0 : Int64) + q1) / ((p0 &&& (3 : Int32)).toInt64)) / (1000000 : Int64)))])) _
    refine XS.lstore X133.here hx rfl (hb hby at_119) rfl (l' := #[.val (.int p0), .val (.long q1), .second, .val (.long q2), .second, .val (.long q3), .second, .val (.int (p0 &&& (3 : Int32))), .val (.ref b128), .val (.ref b_133), .val (.long ((0 : Int64) + q1)), .second, .val (.long ((((0 : Int64) + q1) / ((p0 &&& (3 : Int32)).toInt64)) / (1000000 : Int64))), .second]) rfl ?_
    show Steps p.tables e below (T133.setTop (mkF m 121 #[.val (.int p0), .val (.long q1), .second, .val (.long q2), .second, .val (.long q3), .second, .val (.int (p0 &&& (3 : Int32))), .val (.ref b128), .val (.ref b_133), .val (.long ((0 : Int64) + q1)), .second, .val (.long ((((0 : Int64) + q1) / ((p0 &&& (3 : Int32)).toInt64)) / (1000000 : Int64))), .second] [])) _
    refine XS.aload X133.here hx rfl (hb hby at_121) rfl rfl ?_
    show Steps p.tables e below (T133.setTop (mkF m 123 #[.val (.int p0), .val (.long q1), .second, .val (.long q2), .second, .val (.long q3), .second, .val (.int (p0 &&& (3 : Int32))), .val (.ref b128), .val (.ref b_133), .val (.long ((0 : Int64) + q1)), .second, .val (.long ((((0 : Int64) + q1) / ((p0 &&& (3 : Int32)).toInt64)) / (1000000 : Int64))), .second] [(.ref b_133)])) _
    refine st135.trans ?_
    show Steps p.tables e below (T135.setTop (mkF m 126 #[.val (.int p0), .val (.long q1), .second, .val (.long q2), .second, .val (.long q3), .second, .val (.int (p0 &&& (3 : Int32))), .val (.ref b128), .val (.ref b_133), .val (.long ((0 : Int64) + q1)), .second, .val (.long ((((0 : Int64) + q1) / ((p0 &&& (3 : Int32)).toInt64)) / (1000000 : Int64))), .second] [(.long (own_avg ((0 : Int64) + q1) ((0 : Int64) + (1 : Int64))))])) _
    refine XS.lload X135.here hx rfl (hb hby at_126) rfl ?_
    show Steps p.tables e below (T135.setTop (mkF m 128 #[.val (.int p0), .val (.long q1), .second, .val (.long q2), .second, .val (.long q3), .second, .val (.int (p0 &&& (3 : Int32))), .val (.ref b128), .val (.ref b_133), .val (.long ((0 : Int64) + q1)), .second, .val (.long ((((0 : Int64) + q1) / ((p0 &&& (3 : Int32)).toInt64)) / (1000000 : Int64))), .second] [(.long ((((0 : Int64) + q1) / ((p0 &&& (3 : Int32)).toInt64)) / (1000000 : Int64))), (.long (own_avg ((0 : Int64) + q1) ((0 : Int64) + (1 : Int64))))])) _
    refine XS.lcmp X135.here hx rfl (hb hby at_128) rfl ?_
    show Steps p.tables e below (T135.setTop (mkF m 129 #[.val (.int p0), .val (.long q1), .second, .val (.long q2), .second, .val (.long q3), .second, .val (.int (p0 &&& (3 : Int32))), .val (.ref b128), .val (.ref b_133), .val (.long ((0 : Int64) + q1)), .second, .val (.long ((((0 : Int64) + q1) / ((p0 &&& (3 : Int32)).toInt64)) / (1000000 : Int64))), .second] [(.int (lcmpW (own_avg ((0 : Int64) + q1) ((0 : Int64) + (1 : Int64))) ((((0 : Int64) + q1) / ((p0 &&& (3 : Int32)).toInt64)) / (1000000 : Int64))))])) _
    refine XS.ifNo X135.here hx rfl (hb hby at_129) rfl ((if0 _ _).trans (teq ((lw_eq _ _).mpr (own_avg_eq (by decide) (by rw [hn] <;> decide)) : (lcmpW (own_avg ((0 : Int64) + q1) ((0 : Int64) + (1 : Int64))) ((((0 : Int64) + q1) / ((p0 &&& (3 : Int32)).toInt64)) / (1000000 : Int64))) = (0 : Int32))).2) ?_
    show Steps p.tables e below (T135.setTop (mkF m 132 #[.val (.int p0), .val (.long q1), .second, .val (.long q2), .second, .val (.long q3), .second, .val (.int (p0 &&& (3 : Int32))), .val (.ref b128), .val (.ref b_133), .val (.long ((0 : Int64) + q1)), .second, .val (.long ((((0 : Int64) + q1) / ((p0 &&& (3 : Int32)).toInt64)) / (1000000 : Int64))), .second] [])) _
    refine XS.aload X135.here hx rfl (hb hby at_132) rfl rfl ?_
    show Steps p.tables e below (T135.setTop (mkF m 134 #[.val (.int p0), .val (.long q1), .second, .val (.long q2), .second, .val (.long q3), .second, .val (.int (p0 &&& (3 : Int32))), .val (.ref b128), .val (.ref b_133), .val (.long ((0 : Int64) + q1)), .second, .val (.long ((((0 : Int64) + q1) / ((p0 &&& (3 : Int32)).toInt64)) / (1000000 : Int64))), .second] [(.ref b_133)])) _
    refine st136.trans ?_
    show Steps p.tables e below (T136.setTop (mkF m 137 #[.val (.int p0), .val (.long q1), .second, .val (.long q2), .second, .val (.long q3), .second, .val (.int (p0 &&& (3 : Int32))), .val (.ref b128), .val (.ref b_133), .val (.long ((0 : Int64) + q1)), .second, .val (.long ((((0 : Int64) + q1) / ((p0 &&& (3 : Int32)).toInt64)) / (1000000 : Int64))), .second] [(.long (0 : Int64))])) _
    refine XS.lconst X136.here hx rfl (hb hby at_137) ?_
    show Steps p.tables e below (T136.setTop (mkF m 138 #[.val (.int p0), .val (.long q1), .second, .val (.long q2), .second, .val (.long q3), .second, .val (.int (p0 &&& (3 : Int32))), .val (.ref b128), .val (.ref b_133), .val (.long ((0 : Int64) + q1)), .second, .val (.long ((((0 : Int64) + q1) / ((p0 &&& (3 : Int32)).toInt64)) / (1000000 : Int64))), .second] [(.long (0 : Int64)), (.long (0 : Int64))])) _
    refine XS.lcmp X136.here hx rfl (hb hby at_138) rfl ?_
    show Steps p.tables e below (T136.setTop (mkF m 139 #[.val (.int p0), .val (.long q1), .second, .val (.long q2), .second, .val (.long q3), .second, .val (.int (p0 &&& (3 : Int32))), .val (.ref b128), .val (.ref b_133), .val (.long ((0 : Int64) + q1)), .second, .val (.long ((((0 : Int64) + q1) / ((p0 &&& (3 : Int32)).toInt64)) / (1000000 : Int64))), .second] [(.int (lcmpW (0 : Int64) (0 : Int64)))])) _
    refine XS.ifNo X136.here hx rfl (hb hby at_139) rfl ((if0 _ _).trans (teq ((lw_eq _ _).mpr rfl : (lcmpW (0 : Int64) (0 : Int64)) = (0 : Int32))).2) ?_
    show Steps p.tables e below (T136.setTop (mkF m 142 #[.val (.int p0), .val (.long q1), .second, .val (.long q2), .second, .val (.long q3), .second, .val (.int (p0 &&& (3 : Int32))), .val (.ref b128), .val (.ref b_133), .val (.long ((0 : Int64) + q1)), .second, .val (.long ((((0 : Int64) + q1) / ((p0 &&& (3 : Int32)).toInt64)) / (1000000 : Int64))), .second] [])) _
    refine XS.aload X136.here hx rfl (hb hby at_142) rfl rfl ?_
    show Steps p.tables e below (T136.setTop (mkF m 144 #[.val (.int p0), .val (.long q1), .second, .val (.long q2), .second, .val (.long q3), .second, .val (.int (p0 &&& (3 : Int32))), .val (.ref b128), .val (.ref b_133), .val (.long ((0 : Int64) + q1)), .second, .val (.long ((((0 : Int64) + q1) / ((p0 &&& (3 : Int32)).toInt64)) / (1000000 : Int64))), .second] [(.ref b_133)])) _
    refine st137.trans ?_
    show Steps p.tables e below (T137.setTop (mkF m 147 #[.val (.int p0), .val (.long q1), .second, .val (.long q2), .second, .val (.long q3), .second, .val (.int (p0 &&& (3 : Int32))), .val (.ref b128), .val (.ref b_133), .val (.long ((0 : Int64) + q1)), .second, .val (.long ((((0 : Int64) + q1) / ((p0 &&& (3 : Int32)).toInt64)) / (1000000 : Int64))), .second] [(.long (0 : Int64))])) _
    refine XS.lconst X137.here hx rfl (hb hby at_147) ?_
    show Steps p.tables e below (T137.setTop (mkF m 148 #[.val (.int p0), .val (.long q1), .second, .val (.long q2), .second, .val (.long q3), .second, .val (.int (p0 &&& (3 : Int32))), .val (.ref b128), .val (.ref b_133), .val (.long ((0 : Int64) + q1)), .second, .val (.long ((((0 : Int64) + q1) / ((p0 &&& (3 : Int32)).toInt64)) / (1000000 : Int64))), .second] [(.long (0 : Int64)), (.long (0 : Int64))])) _
    refine XS.lcmp X137.here hx rfl (hb hby at_148) rfl ?_
    show Steps p.tables e below (T137.setTop (mkF m 149 #[.val (.int p0), .val (.long q1), .second, .val (.long q2), .second, .val (.long q3), .second, .val (.int (p0 &&& (3 : Int32))), .val (.ref b128), .val (.ref b_133), .val (.long ((0 : Int64) + q1)), .second, .val (.long ((((0 : Int64) + q1) / ((p0 &&& (3 : Int32)).toInt64)) / (1000000 : Int64))), .second] [(.int (lcmpW (0 : Int64) (0 : Int64)))])) _
    refine XS.ifNo X137.here hx rfl (hb hby at_149) rfl ((if0 _ _).trans (teq ((lw_eq _ _).mpr rfl : (lcmpW (0 : Int64) (0 : Int64)) = (0 : Int32))).2) ?_
    show Steps p.tables e below (T137.setTop (mkF m 152 #[.val (.int p0), .val (.long q1), .second, .val (.long q2), .second, .val (.long q3), .second, .val (.int (p0 &&& (3 : Int32))), .val (.ref b128), .val (.ref b_133), .val (.long ((0 : Int64) + q1)), .second, .val (.long ((((0 : Int64) + q1) / ((p0 &&& (3 : Int32)).toInt64)) / (1000000 : Int64))), .second] [])) _
    refine XS.aload X137.here hx rfl (hb hby at_152) rfl rfl ?_
    show Steps p.tables e below (T137.setTop (mkF m 154 #[.val (.int p0), .val (.long q1), .second, .val (.long q2), .second, .val (.long q3), .second, .val (.int (p0 &&& (3 : Int32))), .val (.ref b128), .val (.ref b_133), .val (.long ((0 : Int64) + q1)), .second, .val (.long ((((0 : Int64) + q1) / ((p0 &&& (3 : Int32)).toInt64)) / (1000000 : Int64))), .second] [(.ref b_133)])) _
    refine st138.trans ?_
    show Steps p.tables e below (T138.setTop (mkF m 157 #[.val (.int p0), .val (.long q1), .second, .val (.long q2), .second, .val (.long q3), .second, .val (.int (p0 &&& (3 : Int32))), .val (.ref b128), .val (.ref b_133), .val (.long ((0 : Int64) + q1)), .second, .val (.long ((((0 : Int64) + q1) / ((p0 &&& (3 : Int32)).toInt64)) / (1000000 : Int64))), .second] [(.long (0 : Int64))])) _
    refine XS.lconst X138.here hx rfl (hb hby at_157) ?_
    show Steps p.tables e below (T138.setTop (mkF m 158 #[.val (.int p0), .val (.long q1), .second, .val (.long q2), .second, .val (.long q3), .second, .val (.int (p0 &&& (3 : Int32))), .val (.ref b128), .val (.ref b_133), .val (.long ((0 : Int64) + q1)), .second, .val (.long ((((0 : Int64) + q1) / ((p0 &&& (3 : Int32)).toInt64)) / (1000000 : Int64))), .second] [(.long (0 : Int64)), (.long (0 : Int64))])) _
    refine XS.lcmp X138.here hx rfl (hb hby at_158) rfl ?_
    show Steps p.tables e below (T138.setTop (mkF m 159 #[.val (.int p0), .val (.long q1), .second, .val (.long q2), .second, .val (.long q3), .second, .val (.int (p0 &&& (3 : Int32))), .val (.ref b128), .val (.ref b_133), .val (.long ((0 : Int64) + q1)), .second, .val (.long ((((0 : Int64) + q1) / ((p0 &&& (3 : Int32)).toInt64)) / (1000000 : Int64))), .second] [(.int (lcmpW (0 : Int64) (0 : Int64)))])) _
    refine XS.ifNo X138.here hx rfl (hb hby at_159) rfl ((if0 _ _).trans (teq ((lw_eq _ _).mpr rfl : (lcmpW (0 : Int64) (0 : Int64)) = (0 : Int32))).2) ?_
    show Steps p.tables e below (T138.setTop (mkF m 162 #[.val (.int p0), .val (.long q1), .second, .val (.long q2), .second, .val (.long q3), .second, .val (.int (p0 &&& (3 : Int32))), .val (.ref b128), .val (.ref b_133), .val (.long ((0 : Int64) + q1)), .second, .val (.long ((((0 : Int64) + q1) / ((p0 &&& (3 : Int32)).toInt64)) / (1000000 : Int64))), .second] [])) _
    refine XS.aload X138.here hx rfl (hb hby at_162) rfl rfl ?_
    show Steps p.tables e below (T138.setTop (mkF m 164 #[.val (.int p0), .val (.long q1), .second, .val (.long q2), .second, .val (.long q3), .second, .val (.int (p0 &&& (3 : Int32))), .val (.ref b128), .val (.ref b_133), .val (.long ((0 : Int64) + q1)), .second, .val (.long ((((0 : Int64) + q1) / ((p0 &&& (3 : Int32)).toInt64)) / (1000000 : Int64))), .second] [(.ref b_133)])) _
    refine st139.trans ?_
    show Steps p.tables e below (T139.setTop (mkF m 167 #[.val (.int p0), .val (.long q1), .second, .val (.long q2), .second, .val (.long q3), .second, .val (.int (p0 &&& (3 : Int32))), .val (.ref b128), .val (.ref b_133), .val (.long ((0 : Int64) + q1)), .second, .val (.long ((((0 : Int64) + q1) / ((p0 &&& (3 : Int32)).toInt64)) / (1000000 : Int64))), .second] [(.long (0 : Int64))])) _
    refine XS.lconst X139.here hx rfl (hb hby at_167) ?_
    show Steps p.tables e below (T139.setTop (mkF m 168 #[.val (.int p0), .val (.long q1), .second, .val (.long q2), .second, .val (.long q3), .second, .val (.int (p0 &&& (3 : Int32))), .val (.ref b128), .val (.ref b_133), .val (.long ((0 : Int64) + q1)), .second, .val (.long ((((0 : Int64) + q1) / ((p0 &&& (3 : Int32)).toInt64)) / (1000000 : Int64))), .second] [(.long (0 : Int64)), (.long (0 : Int64))])) _
    refine XS.lcmp X139.here hx rfl (hb hby at_168) rfl ?_
    show Steps p.tables e below (T139.setTop (mkF m 169 #[.val (.int p0), .val (.long q1), .second, .val (.long q2), .second, .val (.long q3), .second, .val (.int (p0 &&& (3 : Int32))), .val (.ref b128), .val (.ref b_133), .val (.long ((0 : Int64) + q1)), .second, .val (.long ((((0 : Int64) + q1) / ((p0 &&& (3 : Int32)).toInt64)) / (1000000 : Int64))), .second] [(.int (lcmpW (0 : Int64) (0 : Int64)))])) _
    refine XS.ifNo X139.here hx rfl (hb hby at_169) rfl ((if0 _ _).trans (teq ((lw_eq _ _).mpr rfl : (lcmpW (0 : Int64) (0 : Int64)) = (0 : Int32))).2) ?_
    show Steps p.tables e below (T139.setTop (mkF m 172 #[.val (.int p0), .val (.long q1), .second, .val (.long q2), .second, .val (.long q3), .second, .val (.int (p0 &&& (3 : Int32))), .val (.ref b128), .val (.ref b_133), .val (.long ((0 : Int64) + q1)), .second, .val (.long ((((0 : Int64) + q1) / ((p0 &&& (3 : Int32)).toInt64)) / (1000000 : Int64))), .second] [])) _
    refine XS.iconst X139.here hx rfl (hb hby at_172) ?_
    show Steps p.tables e below (T139.setTop (mkF m 173 #[.val (.int p0), .val (.long q1), .second, .val (.long q2), .second, .val (.long q3), .second, .val (.int (p0 &&& (3 : Int32))), .val (.ref b128), .val (.ref b_133), .val (.long ((0 : Int64) + q1)), .second, .val (.long ((((0 : Int64) + q1) / ((p0 &&& (3 : Int32)).toInt64)) / (1000000 : Int64))), .second] [(.int (1 : Int32))])) _
    refine XS.goto X139.here hx rfl (pc0 := 173) (pc' := 177) rfl (hb hby at_173) (by decide) (by decide) ?_
    show Steps p.tables e below (T139.setTop (mkF m 177 #[.val (.int p0), .val (.long q1), .second, .val (.long q2), .second, .val (.long q3), .second, .val (.int (p0 &&& (3 : Int32))), .val (.ref b128), .val (.ref b_133), .val (.long ((0 : Int64) + q1)), .second, .val (.long ((((0 : Int64) + q1) / ((p0 &&& (3 : Int32)).toInt64)) / (1000000 : Int64))), .second] [(.int (1 : Int32))])) _
    exact retN X139 hx (t := .boolean) Bd.returns (by simp) (hb hby at_177) hr
  · show Q0 Z ns p0 q1 q2 q3 h0 n0 _ T139.heap _
    rw [eq139]
    exact ⟨rfl, N139, K0_134⟩
set_option maxRecDepth 65536 in
set_option maxHeartbeats 40000000 in
theorem rm0_n2 (l : Launch) (Z : State) (a0 : Array Value) (ns : Addr) (hG : Glob Z a0 ns) (ws : List Jvm.Cond) (p0 : Int32) (q1 : Int64) (q2 : Int64) (q3 : Int64) (h0 : Heap) (n0 : Nat) (Z0 : n0 ≤ h0.size) (X00 : Old Z n0 h0) (hn : (p0 &&& (3 : Int32)) = (2 : Int32)) :
    MetFree l x (head1 (Jvm.Cond.code x code maxLocals ret :: ws) room_1) (fun a U => a = #[(.int p0), (.long q1), (.long q2), (.long q3)] ∧ Z.Warmed39 U.vm ∧ U.heap = h0) (fun _ _ _ _ _ => True) (fun _ U o U' => ∃ v L, o = .returned v ∧ Q0 Z ns p0 q1 q2 q3 h0 n0 v U'.heap L ∧ FrameEnd U o U' L room_1.cells room_1.slots) := by
  obtain ⟨hw, O_ns, O_ens, O_scale, O_ratio⟩ := id hG
  have W : ∀ (i : Nat) {d : Jvm.Cond}, tables_1[i]? = some d → d.before a0 Z = true := fun i d h => hw d (List.mem_of_getElem? h)
  refine MetFree.of_bodySF (plainFor_of_name pn_com_example_cistern_cistern_CountersCheckedInPinLaw) hisR ?_
  intro p e s m args below meth c s₁ Bd hml0 hP hK
  obtain ⟨rfl, hZ, hh⟩ := hP
  have hx := Bd.exec
  have hby := Bd.bytes
  have hml : c.maxLocals = 14 := hml0
  have hown : s.vm.findClass "com/example/cistern/cistern/CountersCheckedInPinLaw" = some m.cls := findClass_of_methodNamed Bd.named
  have hnm := (name_of_methodNamed Bd.named Bd.method).1
  have X0 : Stand p l e room_1 s m #[(.int p0), (.long q1), (.long q2), (.long q3)] below meth c s₁ [] 0 0 := Stand.of_body Bd
  have e0 : s₁.heap = h0 := by rw [← hh, Bd.state]; rfl
  have N0 := Fr.nil n0
  have pre0 : ∀ t, Steps p.tables e below (s₁.setTop (mkF m 0 #[.val (.int p0), .val (.long q1), .second, .val (.long q2), .second, .val (.long q3), .second, .unset, .unset, .unset, .unset, .unset, .unset, .unset] [])) t → Steps p.tables e below (s₁.setTop (entryFrame m #[(.int p0), (.long q1), (.long q2), (.long q3)] maxLocals)) t := fun t kk_ => castTop (ef_code_IJJJ m p0 q1 q2 q3) kk_
  obtain ⟨T140, h140, X140, e140, E140, A140, D140, -, st140⟩ := newO X0 hx hZ hown (W 0 rfl) (W 1 rfl) (W 2 rfl) e0 (g := (mkF m 5 #[.val (.int p0), .val (.long q1), .second, .val (.long q2), .second, .val (.long q3), .second, .val (.int (p0 &&& (3 : Int32))), .unset, .unset, .unset, .unset, .unset, .unset] [])) rfl (hb hby at_5) (by decide) (by decide)
  obtain ⟨b140, g140⟩ : ∃ z, z = h0.size := ⟨_, rfl⟩
  rw [← g140] at A140 D140 st140
  have Z141 : n0 ≤ h140.size := Nat.le_trans Z0 E140.1
  have K0_141 : Keep h0 h140 [] := (Keep.refl h0 []).ext E140
  have O141 : Old Z n0 h140 := X00.ext E140
  have lo_b140 : h0.size ≤ b140 := Nat.le_of_eq g140.symm
  have g_b140 : n0 ≤ b140 := Nat.le_trans Z0 lo_b140
  have l0_b140 : h0.size ≤ b140 := Nat.le_trans (Keep.refl h0 []).1 lo_b140
  have F_requestCount_b140 : Fld Z h140 b140 "com/example/cistern/cistern/PoolState$Counters" "requestCount" "J" (.long (0 : Int64)) := D140 (Or.inl (W 22 rfl)) (ty := .long) (by decide)
  have F_requestNanos_b140 : Fld Z h140 b140 "com/example/cistern/cistern/PoolState$Counters" "requestNanos" "J" (.long (0 : Int64)) := D140 (Or.inl (W 26 rfl)) (ty := .long) (by decide)
  have F_hadToWaitCount_b140 : Fld Z h140 b140 "com/example/cistern/cistern/PoolState$Counters" "hadToWaitCount" "J" (.long (0 : Int64)) := D140 (Or.inl (W 33 rfl)) (ty := .long) (by decide)
  have F_waitNanos_b140 : Fld Z h140 b140 "com/example/cistern/cistern/PoolState$Counters" "waitNanos" "J" (.long (0 : Int64)) := D140 (Or.inl (W 37 rfl)) (ty := .long) (by decide)
  have F_badConnectionCount_b140 : Fld Z h140 b140 "com/example/cistern/cistern/PoolState$Counters" "badConnectionCount" "J" (.long (0 : Int64)) := D140 (Or.inl (W 41 rfl)) (ty := .long) (by decide)
  have F_claimedOverdueCount_b140 : Fld Z h140 b140 "com/example/cistern/cistern/PoolState$Counters" "claimedOverdueCount" "J" (.long (0 : Int64)) := D140 (Or.inl (W 45 rfl)) (ty := .long) (by decide)
  have F_overdueCheckoutNanos_b140 : Fld Z h140 b140 "com/example/cistern/cistern/PoolState$Counters" "overdueCheckoutNanos" "J" (.long (0 : Int64)) := D140 (Or.inl (W 49 rfl)) (ty := .long) (by decide)
  have F_checkoutNanos_b140 : Fld Z h140 b140 "com/example/cistern/cistern/PoolState$Counters" "checkoutNanos" "J" (.long (0 : Int64)) := D140 (Or.inl (W 53 rfl)) (ty := .long) (by decide)
  have F_checkoutCount_b140 : Fld Z h140 b140 "com/example/cistern/cistern/PoolState$Counters" "checkoutCount" "J" (.long (0 : Int64)) := D140 (Or.inl (W 55 rfl)) (ty := .long) (by decide)
  have F_connectionsOpened_b140 : Fld Z h140 b140 "com/example/cistern/cistern/PoolState$Counters" "connectionsOpened" "J" (.long (0 : Int64)) := D140 (Or.inl (W 65 rfl)) (ty := .long) (by decide)
  -- pc 9: com/example/cistern/cistern/PoolState$Counters.<init>
  obtain ⟨_, _, ⟨T142, L142, k142, n142⟩, -, X142, ⟨Lc142, hQ142, l142, y142, z142⟩, st142⟩ := X140.specialBack hx (y := y4) rfl hown (mvT hZ (W 3 rfl)) (mvT hZ (W 4 rfl)) (mvT hZ (W 5 rfl)) (by decide) (backOf (W := 1) (rmcti l Z a0 ns hG [] b140 h140 n0 Z141 O141) hZ (W 5 rfl) (W 2 rfl) (by decide) (by decide)) (g := (mkF m 9 #[.val (.int p0), .val (.long q1), .second, .val (.long q2), .second, .val (.long q3), .second, .val (.int (p0 &&& (3 : Int32))), .unset, .unset, .unset, .unset, .unset, .unset] [(.ref b140), (.ref b140)])) rfl (by rw [hml]; rfl) (Steps.refl _) (a := b140) (argsL := []) (rest := [(.ref b140)]) (lenOf pd___V rfl) rfl (by show 2 * 0 + _ ≤ _; exact Nat.le_of_eq rfl) (hb hby at_9) (fun _ _ => ⟨rfl, e140, (by decide : 1 + 0 ≤ _), (by decide : 10 + 0 ≤ _)⟩)
  dsimp only [Pt.U, Pt.locs, Pt.cells, Pt.slots] at X142 l142 y142 z142 st142 hQ142
  subst l142 y142 z142
  obtain ⟨rfl, N142q, eq142⟩ := hQ142
  have N142 := Fr.app N0 N142q
  obtain ⟨cq143, kq143, q143a, q143b, q143c⟩ := isOf hZ eq142 A140
  -- pc 23: com/example/cistern/cistern/PoolState$Counters.checkedIn
  obtain ⟨_, _, ⟨T143, L143, k143, n143⟩, -, X143, ⟨Lc143, hQ143, l143, y143, z143⟩, st143⟩ := X142.virtualBack hx (y := y10) (z := y10) hown (mvT hZ (W 93 rfl)) (mvT hZ (W 94 rfl)) (notFace_of_selects (args := #[]) (mvT hZ (W 96 rfl))) (mvT hZ (W 96 rfl)) (mvT hZ (W 95 rfl)) (by decide) (backOf (W := 0) (rmcheckedIn l Z a0 ns hG [] b140 q1 (0 : Int64) (0 : Int64) (0 : Int64) (0 : Int64) (0 : Int64) (0 : Int64) (0 : Int64) (0 : Int64) (0 : Int64) (0 : Int64) h140 n0 Z141 O141 A140 g_b140 F_requestCount_b140 F_requestNanos_b140 F_hadToWaitCount_b140 F_waitNanos_b140 F_badConnectionCount_b140 F_claimedOverdueCount_b140 F_overdueCheckoutNanos_b140 F_checkoutCount_b140 F_checkoutNanos_b140 F_connectionsOpened_b140) hZ (W 97 rfl) (W 2 rfl) (by decide) (by decide)) q143a q143c (g := (mkF m 23 #[.val (.int p0), .val (.long q1), .second, .val (.long q2), .second, .val (.long q3), .second, .val (.int (p0 &&& (3 : Int32))), .val (.ref b140), .unset, .unset, .unset, .unset, .unset] [(.long q1), (.ref b140)])) rfl (by rw [hml]; rfl) (Steps.refl _) (argsL := [(.long q1)]) (rest := []) (lenOf pd__J_V rfl) rfl (by show 2 * 0 + _ ≤ _; exact Nat.le_of_eq rfl) (hb hby at_23) (fun _ _ => ⟨rfl, eq142, (by decide : 1 + 0 ≤ _), (by decide : 10 + 0 ≤ _)⟩)
  dsimp only [Pt.U, Pt.locs, Pt.cells, Pt.slots] at X143 l143 y143 z143 st143 hQ143
  subst l143 y143 z143
  obtain ⟨rfl, N143q, K143, f143_0, f143_1, f143_2, f143_3, f143_4, f143_5, f143_6, f143_7, f143_8, f143_9, f143_10⟩ := hQ143
  have N143 := Fr.app N142 N143q
  have Z144 : n0 ≤ T143.heap.size := Nat.le_trans Z141 K143.1
  have K0_144 : Keep h0 T143.heap [] := K0_141.trans K143 (allS (Or.inr l0_b140) all0)
  have O144 : Old Z n0 T143.heap := O141.keep K143 (allS g_b140 all0)
  obtain ⟨cq145, kq145, q145a, q145b, q145c⟩ := isOf hZ rfl f143_0
  -- pc 35: com/example/cistern/cistern/PoolState$Counters.checkedIn
  obtain ⟨_, _, ⟨T145, L145, k145, n145⟩, -, X145, ⟨Lc145, hQ145, l145, y145, z145⟩, st145⟩ := X143.virtualBack hx (y := y10) (z := y10) hown (mvT hZ (W 93 rfl)) (mvT hZ (W 94 rfl)) (notFace_of_selects (args := #[]) (mvT hZ (W 96 rfl))) (mvT hZ (W 96 rfl)) (mvT hZ (W 95 rfl)) (by decide) (backOf (W := 0) (rmcheckedIn l Z a0 ns hG [] b140 q2 (0 : Int64) (0 : Int64) (0 : Int64) (0 : Int64) (0 : Int64) (0 : Int64) (0 : Int64) ((0 : Int64) + (1 : Int64)) ((0 : Int64) + q1) (0 : Int64) T143.heap n0 Z144 O144 f143_0 g_b140 f143_1 f143_2 f143_3 f143_4 f143_5 f143_6 f143_7 f143_8 f143_9 f143_10) hZ (W 97 rfl) (W 2 rfl) (by decide) (by decide)) q145a q145c (g := (mkF m 35 #[.val (.int p0), .val (.long q1), .second, .val (.long q2), .second, .val (.long q3), .second, .val (.int (p0 &&& (3 : Int32))), .val (.ref b140), .unset, .unset, .unset, .unset, .unset] [(.long q2), (.ref b140)])) rfl (by rw [hml]; rfl) (Steps.refl _) (argsL := [(.long q2)]) (rest := []) (lenOf pd__J_V rfl) rfl (by show 2 * 0 + _ ≤ _; exact Nat.le_of_eq rfl) (hb hby at_35) (fun _ _ => ⟨rfl, rfl, (by decide : 1 + 0 ≤ _), (by decide : 10 + 0 ≤ _)⟩)
  dsimp only [Pt.U, Pt.locs, Pt.cells, Pt.slots] at X145 l145 y145 z145 st145 hQ145
  subst l145 y145 z145
  obtain ⟨rfl, N145q, K145, f145_0, f145_1, f145_2, f145_3, f145_4, f145_5, f145_6, f145_7, f145_8, f145_9, f145_10⟩ := hQ145
  have N145 := Fr.app N143 N145q
  have Z146 : n0 ≤ T145.heap.size := Nat.le_trans Z144 K145.1
  have K0_146 : Keep h0 T145.heap [] := K0_144.trans K145 (allS (Or.inr l0_b140) all0)
  have O146 : Old Z n0 T145.heap := O144.keep K145 (allS g_b140 all0)
  obtain ⟨cq147, kq147, q147a, q147b, q147c⟩ := isOf hZ rfl f145_0
  -- pc 56: com/example/cistern/cistern/PoolState$Counters.snapshot
  obtain ⟨_, _, ⟨T147, L147, k147, n147⟩, -, X147, ⟨Lc147, hQ147, l147, y147, z147⟩, st147⟩ := X145.virtualBack hx (y := y3) (z := y3) hown (mvT hZ (W 9 rfl)) (mvT hZ (W 10 rfl)) (notFace_of_selects (args := #[]) (mvT hZ (W 12 rfl))) (mvT hZ (W 12 rfl)) (mvT hZ (W 11 rfl)) (by decide) (backOf (W := 0) (rmsnap l Z a0 ns hG [] b140 (0 : Int32) (0 : Int32) (0 : Int32) (0 : Int64) (0 : Int64) (0 : Int64) (0 : Int64) (0 : Int64) (0 : Int64) (0 : Int64) (((0 : Int64) + (1 : Int64)) + (1 : Int64)) (((0 : Int64) + q1) + q2) (0 : Int64) T145.heap n0 Z146 O146 f145_1 f145_2 f145_3 f145_4 f145_5 f145_6 f145_7 f145_8 f145_9 f145_10) hZ (W 13 rfl) (W 2 rfl) (by decide) (by decide)) q147a q147c (g := (mkF m 56 #[.val (.int p0), .val (.long q1), .second, .val (.long q2), .second, .val (.long q3), .second, .val (.int (p0 &&& (3 : Int32))), .val (.ref b140), .unset, .unset, .unset, .unset, .unset] [(.int (0 : Int32)), (.int (0 : Int32)), (.int (0 : Int32)), (.ref b140)])) rfl (by rw [hml]; rfl) (Steps.refl _) (argsL := [(.int (0 : Int32)), (.int (0 : Int32)), (.int (0 : Int32))]) (rest := []) (lenOf pd__III_Lcom_example_cistern_cistern_PoolState_ rfl) rfl (by show 2 * 0 + _ ≤ _; exact Nat.le_of_eq rfl) (hb hby at_56) (fun _ _ => ⟨rfl, rfl, (by decide : 1 + 1 ≤ _), (by decide : 10 + 12 ≤ _)⟩)
  dsimp only [Pt.U, Pt.locs, Pt.cells, Pt.slots] at X147 l147 y147 z147 st147 hQ147
  subst l147 y147 z147
  obtain ⟨b_147, rfl, N147q, K147, f147_0, f147_1, f147_2, f147_3, f147_4, f147_5, f147_6, f147_7, f147_8, f147_9, f147_10, f147_11, f147_12, f147_13⟩ := hQ147
  have N147 := Fr.app N145 N147q
  have Z148 : n0 ≤ T147.heap.size := Nat.le_trans Z146 K147.1
  have K0_148 : Keep h0 T147.heap [] := K0_146.trans K147 all0
  have O148 : Old Z n0 T147.heap := O146.keep K147 all0
  have lo_b_147 : T145.heap.size ≤ b_147 := f147_0
  have g_b_147 : n0 ≤ b_147 := Nat.le_trans Z146 lo_b_147
  have l0_b_147 : h0.size ≤ b_147 := Nat.le_trans K0_146.1 lo_b_147
  obtain ⟨cq149, kq149, q149a, q149b, q149c⟩ := isOf hZ rfl f147_1
  -- pc 123: com/example/cistern/cistern/PoolState.getAverageCheckoutTime
  obtain ⟨_, _, ⟨T149, L149, k149, n149⟩, -, X149, ⟨Lc149, hQ149, l149, y149, z149⟩, st149⟩ := X147.virtualBack hx (y := y8) (z := y8) hown (mvT hZ (W 68 rfl)) (mvT hZ (W 69 rfl)) (notFace_of_selects (args := #[]) (mvT hZ (W 71 rfl))) (mvT hZ (W 71 rfl)) (mvT hZ (W 70 rfl)) (by decide) (backOf (W := 0) (rmG_averageCheckoutTime l Z a0 ns hG [] b_147 (own_avg (((0 : Int64) + q1) + q2) (((0 : Int64) + (1 : Int64)) + (1 : Int64))) T147.heap n0 Z148 O148 f147_9) hZ (W 72 rfl) (W 16 rfl) (by decide) (by decide)) q149a q149c (g := (mkF m 123 #[.val (.int p0), .val (.long q1), .second, .val (.long q2), .second, .val (.long q3), .second, .val (.int (p0 &&& (3 : Int32))), .val (.ref b140), .val (.ref b_147), .val (.long (((0 : Int64) + q1) + q2)), .second, .val (.long (((((0 : Int64) + q1) + q2) / ((p0 &&& (3 : Int32)).toInt64)) / (1000000 : Int64))), .second] [(.ref b_147)])) rfl (by rw [hml]; rfl) (Steps.refl _) (argsL := []) (rest := []) (lenOf pd___J rfl) rfl (by show 2 * 0 + _ ≤ _; exact Nat.le_of_eq rfl) (hb hby at_123) (fun _ _ => ⟨rfl, rfl, (by decide : 2 + 0 ≤ _), (by decide : 22 + 0 ≤ _)⟩)
  dsimp only [Pt.U, Pt.locs, Pt.cells, Pt.slots] at X149 l149 y149 z149 st149 hQ149
  subst l149 y149 z149
  obtain ⟨rfl, N149q, eq149⟩ := hQ149
  have N149 := Fr.app N147 N149q
  obtain ⟨cq150, kq150, q150a, q150b, q150c⟩ := isOf hZ eq149 f147_1
  -- pc 134: com/example/cistern/cistern/PoolState.getClaimedOverdueConnectionCount
  obtain ⟨_, _, ⟨T150, L150, k150, n150⟩, -, X150, ⟨Lc150, hQ150, l150, y150, z150⟩, st150⟩ := X149.virtualBack hx (y := y7) (z := y7) hown (mvT hZ (W 73 rfl)) (mvT hZ (W 74 rfl)) (notFace_of_selects (args := #[]) (mvT hZ (W 76 rfl))) (mvT hZ (W 76 rfl)) (mvT hZ (W 75 rfl)) (by decide) (backOf (W := 0) (rmG_claimedOverdueConnectionCount l Z a0 ns hG [] b_147 (0 : Int64) T147.heap n0 Z148 O148 f147_7) hZ (W 77 rfl) (W 16 rfl) (by decide) (by decide)) q150a q150c (g := (mkF m 134 #[.val (.int p0), .val (.long q1), .second, .val (.long q2), .second, .val (.long q3), .second, .val (.int (p0 &&& (3 : Int32))), .val (.ref b140), .val (.ref b_147), .val (.long (((0 : Int64) + q1) + q2)), .second, .val (.long (((((0 : Int64) + q1) + q2) / ((p0 &&& (3 : Int32)).toInt64)) / (1000000 : Int64))), .second] [(.ref b_147)])) rfl (by rw [hml]; rfl) (Steps.refl _) (argsL := []) (rest := []) (lenOf pd___J rfl) rfl (by show 2 * 0 + _ ≤ _; exact Nat.le_of_eq rfl) (hb hby at_134) (fun _ _ => ⟨rfl, eq149, (by decide : 2 + 0 ≤ _), (by decide : 22 + 0 ≤ _)⟩)
  dsimp only [Pt.U, Pt.locs, Pt.cells, Pt.slots] at X150 l150 y150 z150 st150 hQ150
  subst l150 y150 z150
  obtain ⟨rfl, N150q, eq150⟩ := hQ150
  have N150 := Fr.app N149 N150q
  obtain ⟨cq151, kq151, q151a, q151b, q151c⟩ := isOf hZ eq150 f147_1
  -- pc 144: com/example/cistern/cistern/PoolState.getRequestCount
  obtain ⟨_, _, ⟨T151, L151, k151, n151⟩, -, X151, ⟨Lc151, hQ151, l151, y151, z151⟩, st151⟩ := X150.virtualBack hx (y := y5) (z := y5) hown (mvT hZ (W 78 rfl)) (mvT hZ (W 79 rfl)) (notFace_of_selects (args := #[]) (mvT hZ (W 81 rfl))) (mvT hZ (W 81 rfl)) (mvT hZ (W 80 rfl)) (by decide) (backOf (W := 0) (rmG_requestCount l Z a0 ns hG [] b_147 (0 : Int64) T147.heap n0 Z148 O148 f147_2) hZ (W 82 rfl) (W 16 rfl) (by decide) (by decide)) q151a q151c (g := (mkF m 144 #[.val (.int p0), .val (.long q1), .second, .val (.long q2), .second, .val (.long q3), .second, .val (.int (p0 &&& (3 : Int32))), .val (.ref b140), .val (.ref b_147), .val (.long (((0 : Int64) + q1) + q2)), .second, .val (.long (((((0 : Int64) + q1) + q2) / ((p0 &&& (3 : Int32)).toInt64)) / (1000000 : Int64))), .second] [(.ref b_147)])) rfl (by rw [hml]; rfl) (Steps.refl _) (argsL := []) (rest := []) (lenOf pd___J rfl) rfl (by show 2 * 0 + _ ≤ _; exact Nat.le_of_eq rfl) (hb hby at_144) (fun _ _ => ⟨rfl, eq150, (by decide : 2 + 0 ≤ _), (by decide : 22 + 0 ≤ _)⟩)
  dsimp only [Pt.U, Pt.locs, Pt.cells, Pt.slots] at X151 l151 y151 z151 st151 hQ151
  subst l151 y151 z151
  obtain ⟨rfl, N151q, eq151⟩ := hQ151
  have N151 := Fr.app N150 N151q
  obtain ⟨cq152, kq152, q152a, q152b, q152c⟩ := isOf hZ eq151 f147_1
  -- pc 154: com/example/cistern/cistern/PoolState.getHadToWaitCount
  obtain ⟨_, _, ⟨T152, L152, k152, n152⟩, -, X152, ⟨Lc152, hQ152, l152, y152, z152⟩, st152⟩ := X151.virtualBack hx (y := y6) (z := y6) hown (mvT hZ (W 83 rfl)) (mvT hZ (W 84 rfl)) (notFace_of_selects (args := #[]) (mvT hZ (W 86 rfl))) (mvT hZ (W 86 rfl)) (mvT hZ (W 85 rfl)) (by decide) (backOf (W := 0) (rmG_hadToWaitCount l Z a0 ns hG [] b_147 (0 : Int64) T147.heap n0 Z148 O148 f147_4) hZ (W 87 rfl) (W 16 rfl) (by decide) (by decide)) q152a q152c (g := (mkF m 154 #[.val (.int p0), .val (.long q1), .second, .val (.long q2), .second, .val (.long q3), .second, .val (.int (p0 &&& (3 : Int32))), .val (.ref b140), .val (.ref b_147), .val (.long (((0 : Int64) + q1) + q2)), .second, .val (.long (((((0 : Int64) + q1) + q2) / ((p0 &&& (3 : Int32)).toInt64)) / (1000000 : Int64))), .second] [(.ref b_147)])) rfl (by rw [hml]; rfl) (Steps.refl _) (argsL := []) (rest := []) (lenOf pd___J rfl) rfl (by show 2 * 0 + _ ≤ _; exact Nat.le_of_eq rfl) (hb hby at_154) (fun _ _ => ⟨rfl, eq151, (by decide : 2 + 0 ≤ _), (by decide : 22 + 0 ≤ _)⟩)
  dsimp only [Pt.U, Pt.locs, Pt.cells, Pt.slots] at X152 l152 y152 z152 st152 hQ152
  subst l152 y152 z152
  obtain ⟨rfl, N152q, eq152⟩ := hQ152
  have N152 := Fr.app N151 N152q
  obtain ⟨cq153, kq153, q153a, q153b, q153c⟩ := isOf hZ eq152 f147_1
  -- pc 164: com/example/cistern/cistern/PoolState.getConnectionsOpened
  obtain ⟨_, _, ⟨T153, L153, k153, n153⟩, -, X153, ⟨Lc153, hQ153, l153, y153, z153⟩, st153⟩ := X152.virtualBack hx (y := y9) (z := y9) hown (mvT hZ (W 88 rfl)) (mvT hZ (W 89 rfl)) (notFace_of_selects (args := #[]) (mvT hZ (W 91 rfl))) (mvT hZ (W 91 rfl)) (mvT hZ (W 90 rfl)) (by decide) (backOf (W := 0) (rmG_connectionsOpened l Z a0 ns hG [] b_147 (0 : Int64) T147.heap n0 Z148 O148 f147_13) hZ (W 92 rfl) (W 16 rfl) (by decide) (by decide)) q153a q153c (g := (mkF m 164 #[.val (.int p0), .val (.long q1), .second, .val (.long q2), .second, .val (.long q3), .second, .val (.int (p0 &&& (3 : Int32))), .val (.ref b140), .val (.ref b_147), .val (.long (((0 : Int64) + q1) + q2)), .second, .val (.long (((((0 : Int64) + q1) + q2) / ((p0 &&& (3 : Int32)).toInt64)) / (1000000 : Int64))), .second] [(.ref b_147)])) rfl (by rw [hml]; rfl) (Steps.refl _) (argsL := []) (rest := []) (lenOf pd___J rfl) rfl (by show 2 * 0 + _ ≤ _; exact Nat.le_of_eq rfl) (hb hby at_164) (fun _ _ => ⟨rfl, eq152, (by decide : 2 + 0 ≤ _), (by decide : 22 + 0 ≤ _)⟩)
  dsimp only [Pt.U, Pt.locs, Pt.cells, Pt.slots] at X153 l153 y153 z153 st153 hQ153
  subst l153 y153 z153
  obtain ⟨rfl, N153q, eq153⟩ := hQ153
  have N153 := Fr.app N152 N153q
  obtain ⟨fs, hr, hrun, hended, hW, hsame⟩ := X153.leave (v := some (.int (1 : Int32))) (fun h => by rw [Bd.returns] at h; cases h)
  refine ⟨_, _, pre0 _ ?_, hrun, hended, _, _, rfl, ?_, ⟨_, rfl⟩, hW, hsame.mono (Nat.le_of_ble_eq_true rfl) (Nat.le_of_ble_eq_true rfl)⟩
  · show Steps p.tables e below (s₁.setTop (mkF m 0 #[.val (.int p0), .val (.long q1), .second, .val (.long q2), .second, .val (.long q3), .second, .unset, .unset, .unset, .unset, .unset, .unset, .unset] [])) _
    refine XS.iloadN X0.here hx rfl (hb hby at_0) rfl ?_
    show Steps p.tables e below (s₁.setTop (mkF m 1 #[.val (.int p0), .val (.long q1), .second, .val (.long q2), .second, .val (.long q3), .second, .unset, .unset, .unset, .unset, .unset, .unset, .unset] [(.int p0)])) _
    refine XS.iconst X0.here hx rfl (hb hby at_1) ?_
    show Steps p.tables e below (s₁.setTop (mkF m 2 #[.val (.int p0), .val (.long q1), .second, .val (.long q2), .second, .val (.long q3), .second, .unset, .unset, .unset, .unset, .unset, .unset, .unset] [(.int (3 : Int32)), (.int p0)])) _
    refine XS.iand X0.here hx rfl (hb hby at_2) rfl ?_
    show Steps p.tables e below (s₁.setTop (mkF m 3 #[.val (.int p0), .val (.long q1), .second, .val (.long q2), .second, .val (.long q3), .second, .unset, .unset, .unset, .unset, .unset, .unset, .unset] [(.int (p0 &&& (3 : Int32)))])) _
    refine XS.istore X0.here hx rfl (hb hby at_3) rfl (l' := #[.val (.int p0), .val (.long q1), .second, .val (.long q2), .second, .val (.long q3), .second, .val (.int (p0 &&& (3 : Int32))), .unset, .unset, .unset, .unset, .unset, .unset]) rfl ?_
    show Steps p.tables e below (s₁.setTop (mkF m 5 #[.val (.int p0), .val (.long q1), .second, .val (.long q2), .second, .val (.long q3), .second, .val (.int (p0 &&& (3 : Int32))), .unset, .unset, .unset, .unset, .unset, .unset] [])) _
    refine st140 _ ?_
    show Steps p.tables e below (T140.setTop (mkF m 8 #[.val (.int p0), .val (.long q1), .second, .val (.long q2), .second, .val (.long q3), .second, .val (.int (p0 &&& (3 : Int32))), .unset, .unset, .unset, .unset, .unset, .unset] [(.ref b140)])) _
    refine XS.dup X140.here hx rfl (hb hby at_8) rfl rfl ?_
    show Steps p.tables e below (T140.setTop (mkF m 9 #[.val (.int p0), .val (.long q1), .second, .val (.long q2), .second, .val (.long q3), .second, .val (.int (p0 &&& (3 : Int32))), .unset, .unset, .unset, .unset, .unset, .unset] [(.ref b140), (.ref b140)])) _
    refine st142.trans ?_
    show Steps p.tables e below (T142.setTop (mkF m 12 #[.val (.int p0), .val (.long q1), .second, .val (.long q2), .second, .val (.long q3), .second, .val (.int (p0 &&& (3 : Int32))), .unset, .unset, .unset, .unset, .unset, .unset] [(.ref b140)])) _
    refine XS.astore X142.here hx rfl (hb hby at_12) rfl rfl (l' := #[.val (.int p0), .val (.long q1), .second, .val (.long q2), .second, .val (.long q3), .second, .val (.int (p0 &&& (3 : Int32))), .val (.ref b140), .unset, .unset, .unset, .unset, .unset]) rfl ?_
    show Steps p.tables e below (T142.setTop (mkF m 14 #[.val (.int p0), .val (.long q1), .second, .val (.long q2), .second, .val (.long q3), .second, .val (.int (p0 &&& (3 : Int32))), .val (.ref b140), .unset, .unset, .unset, .unset, .unset] [])) _
    refine XS.iload X142.here hx rfl (hb hby at_14) rfl ?_
    show Steps p.tables e below (T142.setTop (mkF m 16 #[.val (.int p0), .val (.long q1), .second, .val (.long q2), .second, .val (.long q3), .second, .val (.int (p0 &&& (3 : Int32))), .val (.ref b140), .unset, .unset, .unset, .unset, .unset] [(.int (p0 &&& (3 : Int32)))])) _
    refine XS.iconst X142.here hx rfl (hb hby at_16) ?_
    show Steps p.tables e below (T142.setTop (mkF m 17 #[.val (.int p0), .val (.long q1), .second, .val (.long q2), .second, .val (.long q3), .second, .val (.int (p0 &&& (3 : Int32))), .val (.ref b140), .unset, .unset, .unset, .unset, .unset] [(.int (1 : Int32)), (.int (p0 &&& (3 : Int32)))])) _
    refine XS.icmpNo X142.here hx rfl (hb hby at_17) rfl (flt (by rw [hn] <;> decide : ¬ ((p0 &&& (3 : Int32)) < (1 : Int32)))).1 ?_
    show Steps p.tables e below (T142.setTop (mkF m 20 #[.val (.int p0), .val (.long q1), .second, .val (.long q2), .second, .val (.long q3), .second, .val (.int (p0 &&& (3 : Int32))), .val (.ref b140), .unset, .unset, .unset, .unset, .unset] [])) _
    refine XS.aload X142.here hx rfl (hb hby at_20) rfl rfl ?_
    show Steps p.tables e below (T142.setTop (mkF m 22 #[.val (.int p0), .val (.long q1), .second, .val (.long q2), .second, .val (.long q3), .second, .val (.int (p0 &&& (3 : Int32))), .val (.ref b140), .unset, .unset, .unset, .unset, .unset] [(.ref b140)])) _
    refine XS.lloadN X142.here hx rfl (hb hby at_22) rfl ?_
    show Steps p.tables e below (T142.setTop (mkF m 23 #[.val (.int p0), .val (.long q1), .second, .val (.long q2), .second, .val (.long q3), .second, .val (.int (p0 &&& (3 : Int32))), .val (.ref b140), .unset, .unset, .unset, .unset, .unset] [(.long q1), (.ref b140)])) _
    refine st143.trans ?_
    show Steps p.tables e below (T143.setTop (mkF m 26 #[.val (.int p0), .val (.long q1), .second, .val (.long q2), .second, .val (.long q3), .second, .val (.int (p0 &&& (3 : Int32))), .val (.ref b140), .unset, .unset, .unset, .unset, .unset] [])) _
    refine XS.iload X143.here hx rfl (hb hby at_26) rfl ?_
    show Steps p.tables e below (T143.setTop (mkF m 28 #[.val (.int p0), .val (.long q1), .second, .val (.long q2), .second, .val (.long q3), .second, .val (.int (p0 &&& (3 : Int32))), .val (.ref b140), .unset, .unset, .unset, .unset, .unset] [(.int (p0 &&& (3 : Int32)))])) _
    refine XS.iconst X143.here hx rfl (hb hby at_28) ?_
    show Steps p.tables e below (T143.setTop (mkF m 29 #[.val (.int p0), .val (.long q1), .second, .val (.long q2), .second, .val (.long q3), .second, .val (.int (p0 &&& (3 : Int32))), .val (.ref b140), .unset, .unset, .unset, .unset, .unset] [(.int (2 : Int32)), (.int (p0 &&& (3 : Int32)))])) _
    refine XS.icmpNo X143.here hx rfl (hb hby at_29) rfl (flt (by rw [hn] <;> decide : ¬ ((p0 &&& (3 : Int32)) < (2 : Int32)))).1 ?_
    show Steps p.tables e below (T143.setTop (mkF m 32 #[.val (.int p0), .val (.long q1), .second, .val (.long q2), .second, .val (.long q3), .second, .val (.int (p0 &&& (3 : Int32))), .val (.ref b140), .unset, .unset, .unset, .unset, .unset] [])) _
    refine XS.aload X143.here hx rfl (hb hby at_32) rfl rfl ?_
    show Steps p.tables e below (T143.setTop (mkF m 34 #[.val (.int p0), .val (.long q1), .second, .val (.long q2), .second, .val (.long q3), .second, .val (.int (p0 &&& (3 : Int32))), .val (.ref b140), .unset, .unset, .unset, .unset, .unset] [(.ref b140)])) _
    refine XS.lloadN X143.here hx rfl (hb hby at_34) rfl ?_
    show Steps p.tables e below (T143.setTop (mkF m 35 #[.val (.int p0), .val (.long q1), .second, .val (.long q2), .second, .val (.long q3), .second, .val (.int (p0 &&& (3 : Int32))), .val (.ref b140), .unset, .unset, .unset, .unset, .unset] [(.long q2), (.ref b140)])) _
    refine st145.trans ?_
    show Steps p.tables e below (T145.setTop (mkF m 38 #[.val (.int p0), .val (.long q1), .second, .val (.long q2), .second, .val (.long q3), .second, .val (.int (p0 &&& (3 : Int32))), .val (.ref b140), .unset, .unset, .unset, .unset, .unset] [])) _
    refine XS.iload X145.here hx rfl (hb hby at_38) rfl ?_
    show Steps p.tables e below (T145.setTop (mkF m 40 #[.val (.int p0), .val (.long q1), .second, .val (.long q2), .second, .val (.long q3), .second, .val (.int (p0 &&& (3 : Int32))), .val (.ref b140), .unset, .unset, .unset, .unset, .unset] [(.int (p0 &&& (3 : Int32)))])) _
    refine XS.iconst X145.here hx rfl (hb hby at_40) ?_
    show Steps p.tables e below (T145.setTop (mkF m 41 #[.val (.int p0), .val (.long q1), .second, .val (.long q2), .second, .val (.long q3), .second, .val (.int (p0 &&& (3 : Int32))), .val (.ref b140), .unset, .unset, .unset, .unset, .unset] [(.int (3 : Int32)), (.int (p0 &&& (3 : Int32)))])) _
    refine XS.icmpYes X145.here hx rfl (pc0 := 41) (pc' := 51) rfl (hb hby at_41) rfl (tlt (by rw [hn] <;> decide : (p0 &&& (3 : Int32)) < (3 : Int32))).1 (by decide) (by decide) ?_
    show Steps p.tables e below (T145.setTop (mkF m 51 #[.val (.int p0), .val (.long q1), .second, .val (.long q2), .second, .val (.long q3), .second, .val (.int (p0 &&& (3 : Int32))), .val (.ref b140), .unset, .unset, .unset, .unset, .unset] [])) _
    refine XS.aload X145.here hx rfl (hb hby at_51) rfl rfl ?_
    show Steps p.tables e below (T145.setTop (mkF m 53 #[.val (.int p0), .val (.long q1), .second, .val (.long q2), .second, .val (.long q3), .second, .val (.int (p0 &&& (3 : Int32))), .val (.ref b140), .unset, .unset, .unset, .unset, .unset] [(.ref b140)])) _
    refine XS.iconst X145.here hx rfl (hb hby at_53) ?_
    show Steps p.tables e below (T145.setTop (mkF m 54 #[.val (.int p0), .val (.long q1), .second, .val (.long q2), .second, .val (.long q3), .second, .val (.int (p0 &&& (3 : Int32))), .val (.ref b140), .unset, .unset, .unset, .unset, .unset] [(.int (0 : Int32)), (.ref b140)])) _
    refine XS.iconst X145.here hx rfl (hb hby at_54) ?_
    show Steps p.tables e below (T145.setTop (mkF m 55 #[.val (.int p0), .val (.long q1), .second, .val (.long q2), .second, .val (.long q3), .second, .val (.int (p0 &&& (3 : Int32))), .val (.ref b140), .unset, .unset, .unset, .unset, .unset] [(.int (0 : Int32)), (.int (0 : Int32)), (.ref b140)])) _
    refine XS.iconst X145.here hx rfl (hb hby at_55) ?_
    show Steps p.tables e below (T145.setTop (mkF m 56 #[.val (.int p0), .val (.long q1), .second, .val (.long q2), .second, .val (.long q3), .second, .val (.int (p0 &&& (3 : Int32))), .val (.ref b140), .unset, .unset, .unset, .unset, .unset] [(.int (0 : Int32)), (.int (0 : Int32)), (.int (0 : Int32)), (.ref b140)])) _
    refine st147.trans ?_
    show Steps p.tables e below (T147.setTop (mkF m 59 #[.val (.int p0), .val (.long q1), .second, .val (.long q2), .second, .val (.long q3), .second, .val (.int (p0 &&& (3 : Int32))), .val (.ref b140), .unset, .unset, .unset, .unset, .unset] [(.ref b_147)])) _
    refine XS.astore X147.here hx rfl (hb hby at_59) rfl rfl (l' := #[.val (.int p0), .val (.long q1), .second, .val (.long q2), .second, .val (.long q3), .second, .val (.int (p0 &&& (3 : Int32))), .val (.ref b140), .val (.ref b_147), .unset, .unset, .unset, .unset]) rfl ?_
    show Steps p.tables e below (T147.setTop (mkF m 61 #[.val (.int p0), .val (.long q1), .second, .val (.long q2), .second, .val (.long q3), .second, .val (.int (p0 &&& (3 : Int32))), .val (.ref b140), .val (.ref b_147), .unset, .unset, .unset, .unset] [])) _
    refine XS.lconst X147.here hx rfl (hb hby at_61) ?_
    show Steps p.tables e below (T147.setTop (mkF m 62 #[.val (.int p0), .val (.long q1), .second, .val (.long q2), .second, .val (.long q3), .second, .val (.int (p0 &&& (3 : Int32))), .val (.ref b140), .val (.ref b_147), .unset, .unset, .unset, .unset] [(.long (0 : Int64))])) _
    refine XS.lstore X147.here hx rfl (hb hby at_62) rfl (l' := #[.val (.int p0), .val (.long q1), .second, .val (.long q2), .second, .val (.long q3), .second, .val (.int (p0 &&& (3 : Int32))), .val (.ref b140), .val (.ref b_147), .val (.long (0 : Int64)), .second, .unset, .unset]) rfl ?_
    show Steps p.tables e below (T147.setTop (mkF m 64 #[.val (.int p0), .val (.long q1), .second, .val (.long q2), .second, .val (.long q3), .second, .val (.int (p0 &&& (3 : Int32))), .val (.ref b140), .val (.ref b_147), .val (.long (0 : Int64)), .second, .unset, .unset] [])) _
    refine XS.iload X147.here hx rfl (hb hby at_64) rfl ?_
    show Steps p.tables e below (T147.setTop (mkF m 66 #[.val (.int p0), .val (.long q1), .second, .val (.long q2), .second, .val (.long q3), .second, .val (.int (p0 &&& (3 : Int32))), .val (.ref b140), .val (.ref b_147), .val (.long (0 : Int64)), .second, .unset, .unset] [(.int (p0 &&& (3 : Int32)))])) _
    refine XS.iconst X147.here hx rfl (hb hby at_66) ?_
    show Steps p.tables e below (T147.setTop (mkF m 67 #[.val (.int p0), .val (.long q1), .second, .val (.long q2), .second, .val (.long q3), .second, .val (.int (p0 &&& (3 : Int32))), .val (.ref b140), .val (.ref b_147), .val (.long (0 : Int64)), .second, .unset, .unset] [(.int (1 : Int32)), (.int (p0 &&& (3 : Int32)))])) _
    refine XS.icmpNo X147.here hx rfl (hb hby at_67) rfl (flt (by rw [hn] <;> decide : ¬ ((p0 &&& (3 : Int32)) < (1 : Int32)))).1 ?_
    show Steps p.tables e below (T147.setTop (mkF m 70 #[.val (.int p0), .val (.long q1), .second, .val (.long q2), .second, .val (.long q3), .second, .val (.int (p0 &&& (3 : Int32))), .val (.ref b140), .val (.ref b_147), .val (.long (0 : Int64)), .second, .unset, .unset] [])) _
    refine XS.lload X147.here hx rfl (hb hby at_70) rfl ?_
    show Steps p.tables e below (T147.setTop (mkF m 72 #[.val (.int p0), .val (.long q1), .second, .val (.long q2), .second, .val (.long q3), .second, .val (.int (p0 &&& (3 : Int32))), .val (.ref b140), .val (.ref b_147), .val (.long (0 : Int64)), .second, .unset, .unset] [(.long (0 : Int64))])) _
    refine XS.lloadN X147.here hx rfl (hb hby at_72) rfl ?_
    show Steps p.tables e below (T147.setTop (mkF m 73 #[.val (.int p0), .val (.long q1), .second, .val (.long q2), .second, .val (.long q3), .second, .val (.int (p0 &&& (3 : Int32))), .val (.ref b140), .val (.ref b_147), .val (.long (0 : Int64)), .second, .unset, .unset] [(.long q1), (.long (0 : Int64))])) _
    refine XS.ladd X147.here hx rfl (hb hby at_73) rfl ?_
    show Steps p.tables e below (T147.setTop (mkF m 74 #[.val (.int p0), .val (.long q1), .second, .val (.long q2), .second, .val (.long q3), .second, .val (.int (p0 &&& (3 : Int32))), .val (.ref b140), .val (.ref b_147), .val (.long (0 : Int64)), .second, .unset, .unset] [(.long ((0 : Int64) + q1))])) _
    refine XS.lstore X147.here hx rfl (hb hby at_74) rfl (l' := #[.val (.int p0), .val (.long q1), .second, .val (.long q2), .second, .val (.long q3), .second, .val (.int (p0 &&& (3 : Int32))), .val (.ref b140), .val (.ref b_147), .val (.long ((0 : Int64) + q1)), .second, .unset, .unset]) rfl ?_
    show Steps p.tables e below (T147.setTop (mkF m 76 #[.val (.int p0), .val (.long q1), .second, .val (.long q2), .second, .val (.long q3), .second, .val (.int (p0 &&& (3 : Int32))), .val (.ref b140), .val (.ref b_147), .val (.long ((0 : Int64) + q1)), .second, .unset, .unset] [])) _
    refine XS.iload X147.here hx rfl (hb hby at_76) rfl ?_
    show Steps p.tables e below (T147.setTop (mkF m 78 #[.val (.int p0), .val (.long q1), .second, .val (.long q2), .second, .val (.long q3), .second, .val (.int (p0 &&& (3 : Int32))), .val (.ref b140), .val (.ref b_147), .val (.long ((0 : Int64) + q1)), .second, .unset, .unset] [(.int (p0 &&& (3 : Int32)))])) _
    refine XS.iconst X147.here hx rfl (hb hby at_78) ?_
    show Steps p.tables e below (T147.setTop (mkF m 79 #[.val (.int p0), .val (.long q1), .second, .val (.long q2), .second, .val (.long q3), .second, .val (.int (p0 &&& (3 : Int32))), .val (.ref b140), .val (.ref b_147), .val (.long ((0 : Int64) + q1)), .second, .unset, .unset] [(.int (2 : Int32)), (.int (p0 &&& (3 : Int32)))])) _
    refine XS.icmpNo X147.here hx rfl (hb hby at_79) rfl (flt (by rw [hn] <;> decide : ¬ ((p0 &&& (3 : Int32)) < (2 : Int32)))).1 ?_
    show Steps p.tables e below (T147.setTop (mkF m 82 #[.val (.int p0), .val (.long q1), .second, .val (.long q2), .second, .val (.long q3), .second, .val (.int (p0 &&& (3 : Int32))), .val (.ref b140), .val (.ref b_147), .val (.long ((0 : Int64) + q1)), .second, .unset, .unset] [])) _
    refine XS.lload X147.here hx rfl (hb hby at_82) rfl ?_
    show Steps p.tables e below (T147.setTop (mkF m 84 #[.val (.int p0), .val (.long q1), .second, .val (.long q2), .second, .val (.long q3), .second, .val (.int (p0 &&& (3 : Int32))), .val (.ref b140), .val (.ref b_147), .val (.long ((0 : Int64) + q1)), .second, .unset, .unset] [(.long ((0 : Int64) + q1))])) _
    refine XS.lloadN X147.here hx rfl (hb hby at_84) rfl ?_
    show Steps p.tables e below (T147.setTop (mkF m 85 #[.val (.int p0), .val (.long q1), .second, .val (.long q2), .second, .val (.long q3), .second, .val (.int (p0 &&& (3 : Int32))), .val (.ref b140), .val (.ref b_147), .val (.long ((0 : Int64) + q1)), .second, .unset, .unset] [(.long q2), (.long ((0 : Int64) + q1))])) _
    refine XS.ladd X147.here hx rfl (hb hby at_85) rfl ?_
    show Steps p.tables e below (T147.setTop (mkF m 86 #[.val (.int p0), .val (.long q1), .second, .val (.long q2), .second, .val (.long q3), .second, .val (.int (p0 &&& (3 : Int32))), .val (.ref b140), .val (.ref b_147), .val (.long ((0 : Int64) + q1)), .second, .unset, .unset] [(.long (((0 : Int64) + q1) + q2))])) _
    refine XS.lstore X147.here hx rfl (hb hby at_86) rfl (l' := #[.val (.int p0), .val (.long q1), .second, .val (.long q2), .second, .val (.long q3), .second, .val (.int (p0 &&& (3 : Int32))), .val (.ref b140), .val (.ref b_147), .val (.long (((0 : Int64) + q1) + q2)), .second, .unset, .unset]) rfl ?_
    show Steps p.tables e below (T147.setTop (mkF m 88 #[.val (.int p0), .val (.long q1), .second, .val (.long q2), .second, .val (.long q3), .second, .val (.int (p0 &&& (3 : Int32))), .val (.ref b140), .val (.ref b_147), .val (.long (((0 : Int64) + q1) + q2)), .second, .unset, .unset] [])) _
    refine XS.iload X147.here hx rfl (hb hby at_88) rfl ?_
    show Steps p.tables e below (T147.setTop (mkF m 90 #[.val (.int p0), .val (.long q1), .second, .val (.long q2), .second, .val (.long q3), .second, .val (.int (p0 &&& (3 : Int32))), .val (.ref b140), .val (.ref b_147), .val (.long (((0 : Int64) + q1) + q2)), .second, .unset, .unset] [(.int (p0 &&& (3 : Int32)))])) _
    refine XS.iconst X147.here hx rfl (hb hby at_90) ?_
    show Steps p.tables e below (T147.setTop (mkF m 91 #[.val (.int p0), .val (.long q1), .second, .val (.long q2), .second, .val (.long q3), .second, .val (.int (p0 &&& (3 : Int32))), .val (.ref b140), .val (.ref b_147), .val (.long (((0 : Int64) + q1) + q2)), .second, .unset, .unset] [(.int (3 : Int32)), (.int (p0 &&& (3 : Int32)))])) _
    refine XS.icmpYes X147.here hx rfl (pc0 := 91) (pc' := 101) rfl (hb hby at_91) rfl (tlt (by rw [hn] <;> decide : (p0 &&& (3 : Int32)) < (3 : Int32))).1 (by decide) (by decide) ?_
    show Steps p.tables e below (T147.setTop (mkF m 101 #[.val (.int p0), .val (.long q1), .second, .val (.long q2), .second, .val (.long q3), .second, .val (.int (p0 &&& (3 : Int32))), .val (.ref b140), .val (.ref b_147), .val (.long (((0 : Int64) + q1) + q2)), .second, .unset, .unset] [])) _
    refine XS.lconst X147.here hx rfl (hb hby at_101) ?_
    show Steps p.tables e below (T147.setTop (mkF m 102 #[.val (.int p0), .val (.long q1), .second, .val (.long q2), .second, .val (.long q3), .second, .val (.int (p0 &&& (3 : Int32))), .val (.ref b140), .val (.ref b_147), .val (.long (((0 : Int64) + q1) + q2)), .second, .unset, .unset] [(.long (0 : Int64))])) _
    refine XS.lstore X147.here hx rfl (hb hby at_102) rfl (l' := #[.val (.int p0), .val (.long q1), .second, .val (.long q2), .second, .val (.long q3), .second, .val (.int (p0 &&& (3 : Int32))), .val (.ref b140), .val (.ref b_147), .val (.long (((0 : Int64) + q1) + q2)), .second, .val (.long (0 : Int64)), .second]) rfl ?_
    show Steps p.tables e below (T147.setTop (mkF m 104 #[.val (.int p0), .val (.long q1), .second, .val (.long q2), .second, .val (.long q3), .second, .val (.int (p0 &&& (3 : Int32))), .val (.ref b140), .val (.ref b_147), .val (.long (((0 : Int64) + q1) + q2)), .second, .val (.long (0 : Int64)), .second] [])) _
    refine XS.iload X147.here hx rfl (hb hby at_104) rfl ?_
    show Steps p.tables e below (T147.setTop (mkF m 106 #[.val (.int p0), .val (.long q1), .second, .val (.long q2), .second, .val (.long q3), .second, .val (.int (p0 &&& (3 : Int32))), .val (.ref b140), .val (.ref b_147), .val (.long (((0 : Int64) + q1) + q2)), .second, .val (.long (0 : Int64)), .second] [(.int (p0 &&& (3 : Int32)))])) _
    refine XS.ifNo X147.here hx rfl (hb hby at_106) rfl ((if0 _ _).trans (feq (by rw [hn] <;> decide : ¬ ((p0 &&& (3 : Int32)) = (0 : Int32)))).1) ?_
    show Steps p.tables e below (T147.setTop (mkF m 109 #[.val (.int p0), .val (.long q1), .second, .val (.long q2), .second, .val (.long q3), .second, .val (.int (p0 &&& (3 : Int32))), .val (.ref b140), .val (.ref b_147), .val (.long (((0 : Int64) + q1) + q2)), .second, .val (.long (0 : Int64)), .second] [])) _
    refine XS.lload X147.here hx rfl (hb hby at_109) rfl ?_
    show Steps p.tables e below (T147.setTop (mkF m 111 #[.val (.int p0), .val (.long q1), .second, .val (.long q2), .second, .val (.long q3), .second, .val (.int (p0 &&& (3 : Int32))), .val (.ref b140), .val (.ref b_147), .val (.long (((0 : Int64) + q1) + q2)), .second, .val (.long (0 : Int64)), .second] [(.long (((0 : Int64) + q1) + q2))])) _
    refine XS.iload X147.here hx rfl (hb hby at_111) rfl ?_
    show Steps p.tables e below (T147.setTop (mkF m 113 #[.val (.int p0), .val (.long q1), .second, .val (.long q2), .second, .val (.long q3), .second, .val (.int (p0 &&& (3 : Int32))), .val (.ref b140), .val (.ref b_147), .val (.long (((0 : Int64) + q1) + q2)), .second, .val (.long (0 : Int64)), .second] [(.int (p0 &&& (3 : Int32))), (.long (((0 : Int64) + q1) + q2))])) _
    refine XS.i2l X147.here hx rfl (hb hby at_113) rfl ?_
    show Steps p.tables e below (T147.setTop (mkF m 114 #[.val (.int p0), .val (.long q1), .second, .val (.long q2), .second, .val (.long q3), .second, .val (.int (p0 &&& (3 : Int32))), .val (.ref b140), .val (.ref b_147), .val (.long (((0 : Int64) + q1) + q2)), .second, .val (.long (0 : Int64)), .second] [(.long ((p0 &&& (3 : Int32)).toInt64)), (.long (((0 : Int64) + q1) + q2))])) _
    refine XS.ldiv X147.here hx rfl (hb hby at_114) rfl (by rw [hn] <;> decide) ?_
    show Steps p.tables e below (T147.setTop (mkF m 115 #[.val (.int p0), .val (.long q1), .second, .val (.long q2), .second, .val (.long q3), .second, .val (.int (p0 &&& (3 : Int32))), .val (.ref b140), .val (.ref b_147), .val (.long (((0 : Int64) + q1) + q2)), .second, .val (.long (0 : Int64)), .second] [(.long ((((0 : Int64) + q1) + q2) / ((p0 &&& (3 : Int32)).toInt64)))])) _
    refine X147.ldc2Long hx hown (mvT hZ (W 112 rfl)) (g := (mkF m 115 #[.val (.int p0), .val (.long q1), .second, .val (.long q2), .second, .val (.long q3), .second, .val (.int (p0 &&& (3 : Int32))), .val (.ref b140), .val (.ref b_147), .val (.long (((0 : Int64) + q1) + q2)), .second, .val (.long (0 : Int64)), .second] [(.long ((((0 : Int64) + q1) + q2) / ((p0 &&& (3 : Int32)).toInt64)))])) rfl (hb hby at_115) _ ?_
    show Steps p.tables e below (T147.setTop (mkF m 118 #[.val (.int p0), .val (.long q1), .second, .val (.long q2), .second, .val (.long q3), .second, .val (.int (p0 &&& (3 : Int32))), .val (.ref b140), .val (.ref b_147), .val (.long (((0 : Int64) + q1) + q2)), .second, .val (.long (0 : Int64)), .second] [(.long (1000000 : Int64)), (.long ((((0 : Int64) + q1) + q2) / ((p0 &&& (3 : Int32)).toInt64)))])) _
    refine XS.ldiv X147.here hx rfl (hb hby at_118) rfl (by decide) ?_
    show Steps p.tables e below (T147.setTop (mkF m 119 #[.val (.int p0), .val (.long q1), .second, .val (.long q2), .second, .val (.long q3), .second, .val (.int (p0 &&& (3 : Int32))), .val (.ref b140), .val (.ref b_147), .val (.long (((0 : Int64) + q1) + q2)), .second, .val (.long (0 : Int64)), .second] [(.long (((((0 : Int64) + q1) + q2) / ((p0 &&& (3 : Int32)).toInt64)) / (1000000 : Int64)))])) _
    refine XS.lstore X147.here hx rfl (hb hby at_119) rfl (l' := #[.val (.int p0), .val (.long q1), .second, .val (.long q2), .second, .val (.long q3), .second, .val (.int (p0 &&& (3 : Int32))), .val (.ref b140), .val (.ref b_147), .val (.long (((0 : Int64) + q1) + q2)), .second, .val (.long (((((0 : Int64) + q1) + q2) / ((p0 &&& (3 : Int32)).toInt64)) / (1000000 : Int64))), .second]) rfl ?_
    show Steps p.tables e below (T147.setTop (mkF m 121 #[.val (.int p0), .val (.long q1), .second, .val (.long q2), .second, .val (.long q3), .second, .val (.int (p0 &&& (3 : Int32))), .val (.ref b140), .val (.ref b_147), .val (.long (((0 : Int64) + q1) + q2)), .second, .val (.long (((((0 : Int64) + q1) + q2) / ((p0 &&& (3 : Int32)).toInt64)) / (1000000 : Int64))), .second] [])) _
    refine XS.aload X147.here hx rfl (hb hby at_121) rfl rfl ?_
    show Steps p.tables e below (T147.setTop (mkF m 123 #[.val (.int p0), .val (.long q1), .second, .val (.long q2), .second, .val (.long q3), .second, .val (.int (p0 &&& (3 : Int32))), .val (.ref b140), .val (.ref b_147), .val (.long (((0 : Int64) + q1) + q2)), .second, .val (.long (((((0 : Int64) + q1) + q2) / ((p0 &&& (3 : Int32)).toInt64)) / (1000000 : Int64))), .second] [(.ref b_147)])) _
    refine st149.trans ?_
    show Steps p.tables e below (T149.setTop (mkF m 126 #[.val (.int p0), .val (.long q1), .second, .val (.long q2), .second, .val (.long q3), .second, .val (.int (p0 &&& (3 : Int32))), .val (.ref b140), .val (.ref b_147), .val (.long (((0 : Int64) + q1) + q2)), .second, .val (.long (((((0 : Int64) + q1) + q2) / ((p0 &&& (3 : Int32)).toInt64)) / (1000000 : Int64))), .second] [(.long (own_avg (((0 : Int64) + q1) + q2) (((0 : Int64) + (1 : Int64)) + (1 : Int64))))])) _
    refine XS.lload X149.here hx rfl (hb hby at_126) rfl ?_
    show Steps p.tables e below (T149.setTop (mkF m 128 #[.val (.int p0), .val (.long q1), .second, .val (.long q2), .second, .val (.long q3), .second, .val (.int (p0 &&& (3 : Int32))), .val (.ref b140), .val (.ref b_147), .val (.long (((0 : Int64) + q1) + q2)), .second, .val (.long (((((0 : Int64) + q1) + q2) / ((p0 &&& (3 : Int32)).toInt64)) / (1000000 : Int64))), .second] [(.long (((((0 : Int64) + q1) + q2) / ((p0 &&& (3 : Int32)).toInt64)) / (1000000 : Int64))), (.long (own_avg (((0 : Int64) + q1) + q2) (((0 : Int64) + (1 : Int64)) + (1 : Int64))))])) _
    refine XS.lcmp X149.here hx rfl (hb hby at_128) rfl ?_
    show Steps p.tables e below (T149.setTop (mkF m 129 #[.val (.int p0), .val (.long q1), .second, .val (.long q2), .second, .val (.long q3), .second, .val (.int (p0 &&& (3 : Int32))), .val (.ref b140), .val (.ref b_147), .val (.long (((0 : Int64) + q1) + q2)), .second, .val (.long (((((0 : Int64) + q1) + q2) / ((p0 &&& (3 : Int32)).toInt64)) / (1000000 : Int64))), .second] [(.int (lcmpW (own_avg (((0 : Int64) + q1) + q2) (((0 : Int64) + (1 : Int64)) + (1 : Int64))) (((((0 : Int64) + q1) + q2) / ((p0 &&& (3 : Int32)).toInt64)) / (1000000 : Int64))))])) _
    refine XS.ifNo X149.here hx rfl (hb hby at_129) rfl ((if0 _ _).trans (teq ((lw_eq _ _).mpr (own_avg_eq (by decide) (by rw [hn] <;> decide)) : (lcmpW (own_avg (((0 : Int64) + q1) + q2) (((0 : Int64) + (1 : Int64)) + (1 : Int64))) (((((0 : Int64) + q1) + q2) / ((p0 &&& (3 : Int32)).toInt64)) / (1000000 : Int64))) = (0 : Int32))).2) ?_
    show Steps p.tables e below (T149.setTop (mkF m 132 #[.val (.int p0), .val (.long q1), .second, .val (.long q2), .second, .val (.long q3), .second, .val (.int (p0 &&& (3 : Int32))), .val (.ref b140), .val (.ref b_147), .val (.long (((0 : Int64) + q1) + q2)), .second, .val (.long (((((0 : Int64) + q1) + q2) / ((p0 &&& (3 : Int32)).toInt64)) / (1000000 : Int64))), .second] [])) _
    refine XS.aload X149.here hx rfl (hb hby at_132) rfl rfl ?_
    show Steps p.tables e below (T149.setTop (mkF m 134 #[.val (.int p0), .val (.long q1), .second, .val (.long q2), .second, .val (.long q3), .second, .val (.int (p0 &&& (3 : Int32))), .val (.ref b140), .val (.ref b_147), .val (.long (((0 : Int64) + q1) + q2)), .second, .val (.long (((((0 : Int64) + q1) + q2) / ((p0 &&& (3 : Int32)).toInt64)) / (1000000 : Int64))), .second] [(.ref b_147)])) _
    refine st150.trans ?_
    show Steps p.tables e below (T150.setTop (mkF m 137 #[.val (.int p0), .val (.long q1), .second, .val (.long q2), .second, .val (.long q3), .second, .val (.int (p0 &&& (3 : Int32))), .val (.ref b140), .val (.ref b_147), .val (.long (((0 : Int64) + q1) + q2)), .second, .val (.long (((((0 : Int64) + q1) + q2) / ((p0 &&& (3 : Int32)).toInt64)) / (1000000 : Int64))), .second] [(.long (0 : Int64))])) _
    refine XS.lconst X150.here hx rfl (hb hby at_137) ?_
    show Steps p.tables e below (T150.setTop (mkF m 138 #[.val (.int p0), .val (.long q1), .second, .val (.long q2), .second, .val (.long q3), .second, .val (.int (p0 &&& (3 : Int32))), .val (.ref b140), .val (.ref b_147), .val (.long (((0 : Int64) + q1) + q2)), .second, .val (.long (((((0 : Int64) + q1) + q2) / ((p0 &&& (3 : Int32)).toInt64)) / (1000000 : Int64))), .second] [(.long (0 : Int64)), (.long (0 : Int64))])) _
    refine XS.lcmp X150.here hx rfl (hb hby at_138) rfl ?_
    show Steps p.tables e below (T150.setTop (mkF m 139 #[.val (.int p0), .val (.long q1), .second, .val (.long q2), .second, .val (.long q3), .second, .val (.int (p0 &&& (3 : Int32))), .val (.ref b140), .val (.ref b_147), .val (.long (((0 : Int64) + q1) + q2)), .second, .val (.long (((((0 : Int64) + q1) + q2) / ((p0 &&& (3 : Int32)).toInt64)) / (1000000 : Int64))), .second] [(.int (lcmpW (0 : Int64) (0 : Int64)))])) _
    refine XS.ifNo X150.here hx rfl (hb hby at_139) rfl ((if0 _ _).trans (teq ((lw_eq _ _).mpr rfl : (lcmpW (0 : Int64) (0 : Int64)) = (0 : Int32))).2) ?_
    show Steps p.tables e below (T150.setTop (mkF m 142 #[.val (.int p0), .val (.long q1), .second, .val (.long q2), .second, .val (.long q3), .second, .val (.int (p0 &&& (3 : Int32))), .val (.ref b140), .val (.ref b_147), .val (.long (((0 : Int64) + q1) + q2)), .second, .val (.long (((((0 : Int64) + q1) + q2) / ((p0 &&& (3 : Int32)).toInt64)) / (1000000 : Int64))), .second] [])) _
    refine XS.aload X150.here hx rfl (hb hby at_142) rfl rfl ?_
    show Steps p.tables e below (T150.setTop (mkF m 144 #[.val (.int p0), .val (.long q1), .second, .val (.long q2), .second, .val (.long q3), .second, .val (.int (p0 &&& (3 : Int32))), .val (.ref b140), .val (.ref b_147), .val (.long (((0 : Int64) + q1) + q2)), .second, .val (.long (((((0 : Int64) + q1) + q2) / ((p0 &&& (3 : Int32)).toInt64)) / (1000000 : Int64))), .second] [(.ref b_147)])) _
    refine st151.trans ?_
    show Steps p.tables e below (T151.setTop (mkF m 147 #[.val (.int p0), .val (.long q1), .second, .val (.long q2), .second, .val (.long q3), .second, .val (.int (p0 &&& (3 : Int32))), .val (.ref b140), .val (.ref b_147), .val (.long (((0 : Int64) + q1) + q2)), .second, .val (.long (((((0 : Int64) + q1) + q2) / ((p0 &&& (3 : Int32)).toInt64)) / (1000000 : Int64))), .second] [(.long (0 : Int64))])) _
    refine XS.lconst X151.here hx rfl (hb hby at_147) ?_
    show Steps p.tables e below (T151.setTop (mkF m 148 #[.val (.int p0), .val (.long q1), .second, .val (.long q2), .second, .val (.long q3), .second, .val (.int (p0 &&& (3 : Int32))), .val (.ref b140), .val (.ref b_147), .val (.long (((0 : Int64) + q1) + q2)), .second, .val (.long (((((0 : Int64) + q1) + q2) / ((p0 &&& (3 : Int32)).toInt64)) / (1000000 : Int64))), .second] [(.long (0 : Int64)), (.long (0 : Int64))])) _
    refine XS.lcmp X151.here hx rfl (hb hby at_148) rfl ?_
    show Steps p.tables e below (T151.setTop (mkF m 149 #[.val (.int p0), .val (.long q1), .second, .val (.long q2), .second, .val (.long q3), .second, .val (.int (p0 &&& (3 : Int32))), .val (.ref b140), .val (.ref b_147), .val (.long (((0 : Int64) + q1) + q2)), .second, .val (.long (((((0 : Int64) + q1) + q2) / ((p0 &&& (3 : Int32)).toInt64)) / (1000000 : Int64))), .second] [(.int (lcmpW (0 : Int64) (0 : Int64)))])) _
    refine XS.ifNo X151.here hx rfl (hb hby at_149) rfl ((if0 _ _).trans (teq ((lw_eq _ _).mpr rfl : (lcmpW (0 : Int64) (0 : Int64)) = (0 : Int32))).2) ?_
    show Steps p.tables e below (T151.setTop (mkF m 152 #[.val (.int p0), .val (.long q1), .second, .val (.long q2), .second, .val (.long q3), .second, .val (.int (p0 &&& (3 : Int32))), .val (.ref b140), .val (.ref b_147), .val (.long (((0 : Int64) + q1) + q2)), .second, .val (.long (((((0 : Int64) + q1) + q2) / ((p0 &&& (3 : Int32)).toInt64)) / (1000000 : Int64))), .second] [])) _
    refine XS.aload X151.here hx rfl (hb hby at_152) rfl rfl ?_
    show Steps p.tables e below (T151.setTop (mkF m 154 #[.val (.int p0), .val (.long q1), .second, .val (.long q2), .second, .val (.long q3), .second, .val (.int (p0 &&& (3 : Int32))), .val (.ref b140), .val (.ref b_147), .val (.long (((0 : Int64) + q1) + q2)), .second, .val (.long (((((0 : Int64) + q1) + q2) / ((p0 &&& (3 : Int32)).toInt64)) / (1000000 : Int64))), .second] [(.ref b_147)])) _
    refine st152.trans ?_
    show Steps p.tables e below (T152.setTop (mkF m 157 #[.val (.int p0), .val (.long q1), .second, .val (.long q2), .second, .val (.long q3), .second, .val (.int (p0 &&& (3 : Int32))), .val (.ref b140), .val (.ref b_147), .val (.long (((0 : Int64) + q1) + q2)), .second, .val (.long (((((0 : Int64) + q1) + q2) / ((p0 &&& (3 : Int32)).toInt64)) / (1000000 : Int64))), .second] [(.long (0 : Int64))])) _
    refine XS.lconst X152.here hx rfl (hb hby at_157) ?_
    show Steps p.tables e below (T152.setTop (mkF m 158 #[.val (.int p0), .val (.long q1), .second, .val (.long q2), .second, .val (.long q3), .second, .val (.int (p0 &&& (3 : Int32))), .val (.ref b140), .val (.ref b_147), .val (.long (((0 : Int64) + q1) + q2)), .second, .val (.long (((((0 : Int64) + q1) + q2) / ((p0 &&& (3 : Int32)).toInt64)) / (1000000 : Int64))), .second] [(.long (0 : Int64)), (.long (0 : Int64))])) _
    refine XS.lcmp X152.here hx rfl (hb hby at_158) rfl ?_
    show Steps p.tables e below (T152.setTop (mkF m 159 #[.val (.int p0), .val (.long q1), .second, .val (.long q2), .second, .val (.long q3), .second, .val (.int (p0 &&& (3 : Int32))), .val (.ref b140), .val (.ref b_147), .val (.long (((0 : Int64) + q1) + q2)), .second, .val (.long (((((0 : Int64) + q1) + q2) / ((p0 &&& (3 : Int32)).toInt64)) / (1000000 : Int64))), .second] [(.int (lcmpW (0 : Int64) (0 : Int64)))])) _
    refine XS.ifNo X152.here hx rfl (hb hby at_159) rfl ((if0 _ _).trans (teq ((lw_eq _ _).mpr rfl : (lcmpW (0 : Int64) (0 : Int64)) = (0 : Int32))).2) ?_
    show Steps p.tables e below (T152.setTop (mkF m 162 #[.val (.int p0), .val (.long q1), .second, .val (.long q2), .second, .val (.long q3), .second, .val (.int (p0 &&& (3 : Int32))), .val (.ref b140), .val (.ref b_147), .val (.long (((0 : Int64) + q1) + q2)), .second, .val (.long (((((0 : Int64) + q1) + q2) / ((p0 &&& (3 : Int32)).toInt64)) / (1000000 : Int64))), .second] [])) _
    refine XS.aload X152.here hx rfl (hb hby at_162) rfl rfl ?_
    show Steps p.tables e below (T152.setTop (mkF m 164 #[.val (.int p0), .val (.long q1), .second, .val (.long q2), .second, .val (.long q3), .second, .val (.int (p0 &&& (3 : Int32))), .val (.ref b140), .val (.ref b_147), .val (.long (((0 : Int64) + q1) + q2)), .second, .val (.long (((((0 : Int64) + q1) + q2) / ((p0 &&& (3 : Int32)).toInt64)) / (1000000 : Int64))), .second] [(.ref b_147)])) _
    refine st153.trans ?_
    show Steps p.tables e below (T153.setTop (mkF m 167 #[.val (.int p0), .val (.long q1), .second, .val (.long q2), .second, .val (.long q3), .second, .val (.int (p0 &&& (3 : Int32))), .val (.ref b140), .val (.ref b_147), .val (.long (((0 : Int64) + q1) + q2)), .second, .val (.long (((((0 : Int64) + q1) + q2) / ((p0 &&& (3 : Int32)).toInt64)) / (1000000 : Int64))), .second] [(.long (0 : Int64))])) _
    refine XS.lconst X153.here hx rfl (hb hby at_167) ?_
    show Steps p.tables e below (T153.setTop (mkF m 168 #[.val (.int p0), .val (.long q1), .second, .val (.long q2), .second, .val (.long q3), .second, .val (.int (p0 &&& (3 : Int32))), .val (.ref b140), .val (.ref b_147), .val (.long (((0 : Int64) + q1) + q2)), .second, .val (.long (((((0 : Int64) + q1) + q2) / ((p0 &&& (3 : Int32)).toInt64)) / (1000000 : Int64))), .second] [(.long (0 : Int64)), (.long (0 : Int64))])) _
    refine XS.lcmp X153.here hx rfl (hb hby at_168) rfl ?_
    show Steps p.tables e below (T153.setTop (mkF m 169 #[.val (.int p0), .val (.long q1), .second, .val (.long q2), .second, .val (.long q3), .second, .val (.int (p0 &&& (3 : Int32))), .val (.ref b140), .val (.ref b_147), .val (.long (((0 : Int64) + q1) + q2)), .second, .val (.long (((((0 : Int64) + q1) + q2) / ((p0 &&& (3 : Int32)).toInt64)) / (1000000 : Int64))), .second] [(.int (lcmpW (0 : Int64) (0 : Int64)))])) _
    refine XS.ifNo X153.here hx rfl (hb hby at_169) rfl ((if0 _ _).trans (teq ((lw_eq _ _).mpr rfl : (lcmpW (0 : Int64) (0 : Int64)) = (0 : Int32))).2) ?_
    show Steps p.tables e below (T153.setTop (mkF m 172 #[.val (.int p0), .val (.long q1), .second, .val (.long q2), .second, .val (.long q3), .second, .val (.int (p0 &&& (3 : Int32))), .val (.ref b140), .val (.ref b_147), .val (.long (((0 : Int64) + q1) + q2)), .second, .val (.long (((((0 : Int64) + q1) + q2) / ((p0 &&& (3 : Int32)).toInt64)) / (1000000 : Int64))), .second] [])) _
    refine XS.iconst X153.here hx rfl (hb hby at_172) ?_
    show Steps p.tables e below (T153.setTop (mkF m 173 #[.val (.int p0), .val (.long q1), .second, .val (.long q2), .second, .val (.long q3), .second, .val (.int (p0 &&& (3 : Int32))), .val (.ref b140), .val (.ref b_147), .val (.long (((0 : Int64) + q1) + q2)), .second, .val (.long (((((0 : Int64) + q1) + q2) / ((p0 &&& (3 : Int32)).toInt64)) / (1000000 : Int64))), .second] [(.int (1 : Int32))])) _
    refine XS.goto X153.here hx rfl (pc0 := 173) (pc' := 177) rfl (hb hby at_173) (by decide) (by decide) ?_
    show Steps p.tables e below (T153.setTop (mkF m 177 #[.val (.int p0), .val (.long q1), .second, .val (.long q2), .second, .val (.long q3), .second, .val (.int (p0 &&& (3 : Int32))), .val (.ref b140), .val (.ref b_147), .val (.long (((0 : Int64) + q1) + q2)), .second, .val (.long (((((0 : Int64) + q1) + q2) / ((p0 &&& (3 : Int32)).toInt64)) / (1000000 : Int64))), .second] [(.int (1 : Int32))])) _
    exact retN X153 hx (t := .boolean) Bd.returns (by simp) (hb hby at_177) hr
  · show Q0 Z ns p0 q1 q2 q3 h0 n0 _ T153.heap _
    rw [eq153]
    exact ⟨rfl, N153, K0_148⟩
set_option maxRecDepth 65536 in
set_option maxHeartbeats 40000000 in
theorem rm0_n3 (l : Launch) (Z : State) (a0 : Array Value) (ns : Addr) (hG : Glob Z a0 ns) (ws : List Jvm.Cond) (p0 : Int32) (q1 : Int64) (q2 : Int64) (q3 : Int64) (h0 : Heap) (n0 : Nat) (Z0 : n0 ≤ h0.size) (X00 : Old Z n0 h0) (hn : (p0 &&& (3 : Int32)) = (3 : Int32)) :
    MetFree l x (head1 (Jvm.Cond.code x code maxLocals ret :: ws) room_1) (fun a U => a = #[(.int p0), (.long q1), (.long q2), (.long q3)] ∧ Z.Warmed39 U.vm ∧ U.heap = h0) (fun _ _ _ _ _ => True) (fun _ U o U' => ∃ v L, o = .returned v ∧ Q0 Z ns p0 q1 q2 q3 h0 n0 v U'.heap L ∧ FrameEnd U o U' L room_1.cells room_1.slots) := by
  obtain ⟨hw, O_ns, O_ens, O_scale, O_ratio⟩ := id hG
  have W : ∀ (i : Nat) {d : Jvm.Cond}, tables_1[i]? = some d → d.before a0 Z = true := fun i d h => hw d (List.mem_of_getElem? h)
  refine MetFree.of_bodySF (plainFor_of_name pn_com_example_cistern_cistern_CountersCheckedInPinLaw) hisR ?_
  intro p e s m args below meth c s₁ Bd hml0 hP hK
  obtain ⟨rfl, hZ, hh⟩ := hP
  have hx := Bd.exec
  have hby := Bd.bytes
  have hml : c.maxLocals = 14 := hml0
  have hown : s.vm.findClass "com/example/cistern/cistern/CountersCheckedInPinLaw" = some m.cls := findClass_of_methodNamed Bd.named
  have hnm := (name_of_methodNamed Bd.named Bd.method).1
  have X0 : Stand p l e room_1 s m #[(.int p0), (.long q1), (.long q2), (.long q3)] below meth c s₁ [] 0 0 := Stand.of_body Bd
  have e0 : s₁.heap = h0 := by rw [← hh, Bd.state]; rfl
  have N0 := Fr.nil n0
  have pre0 : ∀ t, Steps p.tables e below (s₁.setTop (mkF m 0 #[.val (.int p0), .val (.long q1), .second, .val (.long q2), .second, .val (.long q3), .second, .unset, .unset, .unset, .unset, .unset, .unset, .unset] [])) t → Steps p.tables e below (s₁.setTop (entryFrame m #[(.int p0), (.long q1), (.long q2), (.long q3)] maxLocals)) t := fun t kk_ => castTop (ef_code_IJJJ m p0 q1 q2 q3) kk_
  obtain ⟨T154, h154, X154, e154, E154, A154, D154, -, st154⟩ := newO X0 hx hZ hown (W 0 rfl) (W 1 rfl) (W 2 rfl) e0 (g := (mkF m 5 #[.val (.int p0), .val (.long q1), .second, .val (.long q2), .second, .val (.long q3), .second, .val (.int (p0 &&& (3 : Int32))), .unset, .unset, .unset, .unset, .unset, .unset] [])) rfl (hb hby at_5) (by decide) (by decide)
  obtain ⟨b154, g154⟩ : ∃ z, z = h0.size := ⟨_, rfl⟩
  rw [← g154] at A154 D154 st154
  have Z155 : n0 ≤ h154.size := Nat.le_trans Z0 E154.1
  have K0_155 : Keep h0 h154 [] := (Keep.refl h0 []).ext E154
  have O155 : Old Z n0 h154 := X00.ext E154
  have lo_b154 : h0.size ≤ b154 := Nat.le_of_eq g154.symm
  have g_b154 : n0 ≤ b154 := Nat.le_trans Z0 lo_b154
  have l0_b154 : h0.size ≤ b154 := Nat.le_trans (Keep.refl h0 []).1 lo_b154
  have F_requestCount_b154 : Fld Z h154 b154 "com/example/cistern/cistern/PoolState$Counters" "requestCount" "J" (.long (0 : Int64)) := D154 (Or.inl (W 22 rfl)) (ty := .long) (by decide)
  have F_requestNanos_b154 : Fld Z h154 b154 "com/example/cistern/cistern/PoolState$Counters" "requestNanos" "J" (.long (0 : Int64)) := D154 (Or.inl (W 26 rfl)) (ty := .long) (by decide)
  have F_hadToWaitCount_b154 : Fld Z h154 b154 "com/example/cistern/cistern/PoolState$Counters" "hadToWaitCount" "J" (.long (0 : Int64)) := D154 (Or.inl (W 33 rfl)) (ty := .long) (by decide)
  have F_waitNanos_b154 : Fld Z h154 b154 "com/example/cistern/cistern/PoolState$Counters" "waitNanos" "J" (.long (0 : Int64)) := D154 (Or.inl (W 37 rfl)) (ty := .long) (by decide)
  have F_badConnectionCount_b154 : Fld Z h154 b154 "com/example/cistern/cistern/PoolState$Counters" "badConnectionCount" "J" (.long (0 : Int64)) := D154 (Or.inl (W 41 rfl)) (ty := .long) (by decide)
  have F_claimedOverdueCount_b154 : Fld Z h154 b154 "com/example/cistern/cistern/PoolState$Counters" "claimedOverdueCount" "J" (.long (0 : Int64)) := D154 (Or.inl (W 45 rfl)) (ty := .long) (by decide)
  have F_overdueCheckoutNanos_b154 : Fld Z h154 b154 "com/example/cistern/cistern/PoolState$Counters" "overdueCheckoutNanos" "J" (.long (0 : Int64)) := D154 (Or.inl (W 49 rfl)) (ty := .long) (by decide)
  have F_checkoutNanos_b154 : Fld Z h154 b154 "com/example/cistern/cistern/PoolState$Counters" "checkoutNanos" "J" (.long (0 : Int64)) := D154 (Or.inl (W 53 rfl)) (ty := .long) (by decide)
  have F_checkoutCount_b154 : Fld Z h154 b154 "com/example/cistern/cistern/PoolState$Counters" "checkoutCount" "J" (.long (0 : Int64)) := D154 (Or.inl (W 55 rfl)) (ty := .long) (by decide)
  have F_connectionsOpened_b154 : Fld Z h154 b154 "com/example/cistern/cistern/PoolState$Counters" "connectionsOpened" "J" (.long (0 : Int64)) := D154 (Or.inl (W 65 rfl)) (ty := .long) (by decide)
  -- pc 9: com/example/cistern/cistern/PoolState$Counters.<init>
  obtain ⟨_, _, ⟨T156, L156, k156, n156⟩, -, X156, ⟨Lc156, hQ156, l156, y156, z156⟩, st156⟩ := X154.specialBack hx (y := y4) rfl hown (mvT hZ (W 3 rfl)) (mvT hZ (W 4 rfl)) (mvT hZ (W 5 rfl)) (by decide) (backOf (W := 1) (rmcti l Z a0 ns hG [] b154 h154 n0 Z155 O155) hZ (W 5 rfl) (W 2 rfl) (by decide) (by decide)) (g := (mkF m 9 #[.val (.int p0), .val (.long q1), .second, .val (.long q2), .second, .val (.long q3), .second, .val (.int (p0 &&& (3 : Int32))), .unset, .unset, .unset, .unset, .unset, .unset] [(.ref b154), (.ref b154)])) rfl (by rw [hml]; rfl) (Steps.refl _) (a := b154) (argsL := []) (rest := [(.ref b154)]) (lenOf pd___V rfl) rfl (by show 2 * 0 + _ ≤ _; exact Nat.le_of_eq rfl) (hb hby at_9) (fun _ _ => ⟨rfl, e154, (by decide : 1 + 0 ≤ _), (by decide : 10 + 0 ≤ _)⟩)
  dsimp only [Pt.U, Pt.locs, Pt.cells, Pt.slots] at X156 l156 y156 z156 st156 hQ156
  subst l156 y156 z156
  obtain ⟨rfl, N156q, eq156⟩ := hQ156
  have N156 := Fr.app N0 N156q
  obtain ⟨cq157, kq157, q157a, q157b, q157c⟩ := isOf hZ eq156 A154
  -- pc 23: com/example/cistern/cistern/PoolState$Counters.checkedIn
  obtain ⟨_, _, ⟨T157, L157, k157, n157⟩, -, X157, ⟨Lc157, hQ157, l157, y157, z157⟩, st157⟩ := X156.virtualBack hx (y := y10) (z := y10) hown (mvT hZ (W 93 rfl)) (mvT hZ (W 94 rfl)) (notFace_of_selects (args := #[]) (mvT hZ (W 96 rfl))) (mvT hZ (W 96 rfl)) (mvT hZ (W 95 rfl)) (by decide) (backOf (W := 0) (rmcheckedIn l Z a0 ns hG [] b154 q1 (0 : Int64) (0 : Int64) (0 : Int64) (0 : Int64) (0 : Int64) (0 : Int64) (0 : Int64) (0 : Int64) (0 : Int64) (0 : Int64) h154 n0 Z155 O155 A154 g_b154 F_requestCount_b154 F_requestNanos_b154 F_hadToWaitCount_b154 F_waitNanos_b154 F_badConnectionCount_b154 F_claimedOverdueCount_b154 F_overdueCheckoutNanos_b154 F_checkoutCount_b154 F_checkoutNanos_b154 F_connectionsOpened_b154) hZ (W 97 rfl) (W 2 rfl) (by decide) (by decide)) q157a q157c (g := (mkF m 23 #[.val (.int p0), .val (.long q1), .second, .val (.long q2), .second, .val (.long q3), .second, .val (.int (p0 &&& (3 : Int32))), .val (.ref b154), .unset, .unset, .unset, .unset, .unset] [(.long q1), (.ref b154)])) rfl (by rw [hml]; rfl) (Steps.refl _) (argsL := [(.long q1)]) (rest := []) (lenOf pd__J_V rfl) rfl (by show 2 * 0 + _ ≤ _; exact Nat.le_of_eq rfl) (hb hby at_23) (fun _ _ => ⟨rfl, eq156, (by decide : 1 + 0 ≤ _), (by decide : 10 + 0 ≤ _)⟩)
  dsimp only [Pt.U, Pt.locs, Pt.cells, Pt.slots] at X157 l157 y157 z157 st157 hQ157
  subst l157 y157 z157
  obtain ⟨rfl, N157q, K157, f157_0, f157_1, f157_2, f157_3, f157_4, f157_5, f157_6, f157_7, f157_8, f157_9, f157_10⟩ := hQ157
  have N157 := Fr.app N156 N157q
  have Z158 : n0 ≤ T157.heap.size := Nat.le_trans Z155 K157.1
  have K0_158 : Keep h0 T157.heap [] := K0_155.trans K157 (allS (Or.inr l0_b154) all0)
  have O158 : Old Z n0 T157.heap := O155.keep K157 (allS g_b154 all0)
  obtain ⟨cq159, kq159, q159a, q159b, q159c⟩ := isOf hZ rfl f157_0
  -- pc 35: com/example/cistern/cistern/PoolState$Counters.checkedIn
  obtain ⟨_, _, ⟨T159, L159, k159, n159⟩, -, X159, ⟨Lc159, hQ159, l159, y159, z159⟩, st159⟩ := X157.virtualBack hx (y := y10) (z := y10) hown (mvT hZ (W 93 rfl)) (mvT hZ (W 94 rfl)) (notFace_of_selects (args := #[]) (mvT hZ (W 96 rfl))) (mvT hZ (W 96 rfl)) (mvT hZ (W 95 rfl)) (by decide) (backOf (W := 0) (rmcheckedIn l Z a0 ns hG [] b154 q2 (0 : Int64) (0 : Int64) (0 : Int64) (0 : Int64) (0 : Int64) (0 : Int64) (0 : Int64) ((0 : Int64) + (1 : Int64)) ((0 : Int64) + q1) (0 : Int64) T157.heap n0 Z158 O158 f157_0 g_b154 f157_1 f157_2 f157_3 f157_4 f157_5 f157_6 f157_7 f157_8 f157_9 f157_10) hZ (W 97 rfl) (W 2 rfl) (by decide) (by decide)) q159a q159c (g := (mkF m 35 #[.val (.int p0), .val (.long q1), .second, .val (.long q2), .second, .val (.long q3), .second, .val (.int (p0 &&& (3 : Int32))), .val (.ref b154), .unset, .unset, .unset, .unset, .unset] [(.long q2), (.ref b154)])) rfl (by rw [hml]; rfl) (Steps.refl _) (argsL := [(.long q2)]) (rest := []) (lenOf pd__J_V rfl) rfl (by show 2 * 0 + _ ≤ _; exact Nat.le_of_eq rfl) (hb hby at_35) (fun _ _ => ⟨rfl, rfl, (by decide : 1 + 0 ≤ _), (by decide : 10 + 0 ≤ _)⟩)
  dsimp only [Pt.U, Pt.locs, Pt.cells, Pt.slots] at X159 l159 y159 z159 st159 hQ159
  subst l159 y159 z159
  obtain ⟨rfl, N159q, K159, f159_0, f159_1, f159_2, f159_3, f159_4, f159_5, f159_6, f159_7, f159_8, f159_9, f159_10⟩ := hQ159
  have N159 := Fr.app N157 N159q
  have Z160 : n0 ≤ T159.heap.size := Nat.le_trans Z158 K159.1
  have K0_160 : Keep h0 T159.heap [] := K0_158.trans K159 (allS (Or.inr l0_b154) all0)
  have O160 : Old Z n0 T159.heap := O158.keep K159 (allS g_b154 all0)
  obtain ⟨cq161, kq161, q161a, q161b, q161c⟩ := isOf hZ rfl f159_0
  -- pc 48: com/example/cistern/cistern/PoolState$Counters.checkedIn
  obtain ⟨_, _, ⟨T161, L161, k161, n161⟩, -, X161, ⟨Lc161, hQ161, l161, y161, z161⟩, st161⟩ := X159.virtualBack hx (y := y10) (z := y10) hown (mvT hZ (W 93 rfl)) (mvT hZ (W 94 rfl)) (notFace_of_selects (args := #[]) (mvT hZ (W 96 rfl))) (mvT hZ (W 96 rfl)) (mvT hZ (W 95 rfl)) (by decide) (backOf (W := 0) (rmcheckedIn l Z a0 ns hG [] b154 q3 (0 : Int64) (0 : Int64) (0 : Int64) (0 : Int64) (0 : Int64) (0 : Int64) (0 : Int64) (((0 : Int64) + (1 : Int64)) + (1 : Int64)) (((0 : Int64) + q1) + q2) (0 : Int64) T159.heap n0 Z160 O160 f159_0 g_b154 f159_1 f159_2 f159_3 f159_4 f159_5 f159_6 f159_7 f159_8 f159_9 f159_10) hZ (W 97 rfl) (W 2 rfl) (by decide) (by decide)) q161a q161c (g := (mkF m 48 #[.val (.int p0), .val (.long q1), .second, .val (.long q2), .second, .val (.long q3), .second, .val (.int (p0 &&& (3 : Int32))), .val (.ref b154), .unset, .unset, .unset, .unset, .unset] [(.long q3), (.ref b154)])) rfl (by rw [hml]; rfl) (Steps.refl _) (argsL := [(.long q3)]) (rest := []) (lenOf pd__J_V rfl) rfl (by show 2 * 0 + _ ≤ _; exact Nat.le_of_eq rfl) (hb hby at_48) (fun _ _ => ⟨rfl, rfl, (by decide : 1 + 0 ≤ _), (by decide : 10 + 0 ≤ _)⟩)
  dsimp only [Pt.U, Pt.locs, Pt.cells, Pt.slots] at X161 l161 y161 z161 st161 hQ161
  subst l161 y161 z161
  obtain ⟨rfl, N161q, K161, f161_0, f161_1, f161_2, f161_3, f161_4, f161_5, f161_6, f161_7, f161_8, f161_9, f161_10⟩ := hQ161
  have N161 := Fr.app N159 N161q
  have Z162 : n0 ≤ T161.heap.size := Nat.le_trans Z160 K161.1
  have K0_162 : Keep h0 T161.heap [] := K0_160.trans K161 (allS (Or.inr l0_b154) all0)
  have O162 : Old Z n0 T161.heap := O160.keep K161 (allS g_b154 all0)
  obtain ⟨cq163, kq163, q163a, q163b, q163c⟩ := isOf hZ rfl f161_0
  -- pc 56: com/example/cistern/cistern/PoolState$Counters.snapshot
  obtain ⟨_, _, ⟨T163, L163, k163, n163⟩, -, X163, ⟨Lc163, hQ163, l163, y163, z163⟩, st163⟩ := X161.virtualBack hx (y := y3) (z := y3) hown (mvT hZ (W 9 rfl)) (mvT hZ (W 10 rfl)) (notFace_of_selects (args := #[]) (mvT hZ (W 12 rfl))) (mvT hZ (W 12 rfl)) (mvT hZ (W 11 rfl)) (by decide) (backOf (W := 0) (rmsnap l Z a0 ns hG [] b154 (0 : Int32) (0 : Int32) (0 : Int32) (0 : Int64) (0 : Int64) (0 : Int64) (0 : Int64) (0 : Int64) (0 : Int64) (0 : Int64) ((((0 : Int64) + (1 : Int64)) + (1 : Int64)) + (1 : Int64)) ((((0 : Int64) + q1) + q2) + q3) (0 : Int64) T161.heap n0 Z162 O162 f161_1 f161_2 f161_3 f161_4 f161_5 f161_6 f161_7 f161_8 f161_9 f161_10) hZ (W 13 rfl) (W 2 rfl) (by decide) (by decide)) q163a q163c (g := (mkF m 56 #[.val (.int p0), .val (.long q1), .second, .val (.long q2), .second, .val (.long q3), .second, .val (.int (p0 &&& (3 : Int32))), .val (.ref b154), .unset, .unset, .unset, .unset, .unset] [(.int (0 : Int32)), (.int (0 : Int32)), (.int (0 : Int32)), (.ref b154)])) rfl (by rw [hml]; rfl) (Steps.refl _) (argsL := [(.int (0 : Int32)), (.int (0 : Int32)), (.int (0 : Int32))]) (rest := []) (lenOf pd__III_Lcom_example_cistern_cistern_PoolState_ rfl) rfl (by show 2 * 0 + _ ≤ _; exact Nat.le_of_eq rfl) (hb hby at_56) (fun _ _ => ⟨rfl, rfl, (by decide : 1 + 1 ≤ _), (by decide : 10 + 12 ≤ _)⟩)
  dsimp only [Pt.U, Pt.locs, Pt.cells, Pt.slots] at X163 l163 y163 z163 st163 hQ163
  subst l163 y163 z163
  obtain ⟨b_163, rfl, N163q, K163, f163_0, f163_1, f163_2, f163_3, f163_4, f163_5, f163_6, f163_7, f163_8, f163_9, f163_10, f163_11, f163_12, f163_13⟩ := hQ163
  have N163 := Fr.app N161 N163q
  have Z164 : n0 ≤ T163.heap.size := Nat.le_trans Z162 K163.1
  have K0_164 : Keep h0 T163.heap [] := K0_162.trans K163 all0
  have O164 : Old Z n0 T163.heap := O162.keep K163 all0
  have lo_b_163 : T161.heap.size ≤ b_163 := f163_0
  have g_b_163 : n0 ≤ b_163 := Nat.le_trans Z162 lo_b_163
  have l0_b_163 : h0.size ≤ b_163 := Nat.le_trans K0_162.1 lo_b_163
  obtain ⟨cq165, kq165, q165a, q165b, q165c⟩ := isOf hZ rfl f163_1
  -- pc 123: com/example/cistern/cistern/PoolState.getAverageCheckoutTime
  obtain ⟨_, _, ⟨T165, L165, k165, n165⟩, -, X165, ⟨Lc165, hQ165, l165, y165, z165⟩, st165⟩ := X163.virtualBack hx (y := y8) (z := y8) hown (mvT hZ (W 68 rfl)) (mvT hZ (W 69 rfl)) (notFace_of_selects (args := #[]) (mvT hZ (W 71 rfl))) (mvT hZ (W 71 rfl)) (mvT hZ (W 70 rfl)) (by decide) (backOf (W := 0) (rmG_averageCheckoutTime l Z a0 ns hG [] b_163 (own_avg ((((0 : Int64) + q1) + q2) + q3) ((((0 : Int64) + (1 : Int64)) + (1 : Int64)) + (1 : Int64))) T163.heap n0 Z164 O164 f163_9) hZ (W 72 rfl) (W 16 rfl) (by decide) (by decide)) q165a q165c (g := (mkF m 123 #[.val (.int p0), .val (.long q1), .second, .val (.long q2), .second, .val (.long q3), .second, .val (.int (p0 &&& (3 : Int32))), .val (.ref b154), .val (.ref b_163), .val (.long ((((0 : Int64) + q1) + q2) + q3)), .second, .val (.long ((((((0 : Int64) + q1) + q2) + q3) / ((p0 &&& (3 : Int32)).toInt64)) / (1000000 : Int64))), .second] [(.ref b_163)])) rfl (by rw [hml]; rfl) (Steps.refl _) (argsL := []) (rest := []) (lenOf pd___J rfl) rfl (by show 2 * 0 + _ ≤ _; exact Nat.le_of_eq rfl) (hb hby at_123) (fun _ _ => ⟨rfl, rfl, (by decide : 2 + 0 ≤ _), (by decide : 22 + 0 ≤ _)⟩)
  dsimp only [Pt.U, Pt.locs, Pt.cells, Pt.slots] at X165 l165 y165 z165 st165 hQ165
  subst l165 y165 z165
  obtain ⟨rfl, N165q, eq165⟩ := hQ165
  have N165 := Fr.app N163 N165q
  obtain ⟨cq166, kq166, q166a, q166b, q166c⟩ := isOf hZ eq165 f163_1
  -- pc 134: com/example/cistern/cistern/PoolState.getClaimedOverdueConnectionCount
  obtain ⟨_, _, ⟨T166, L166, k166, n166⟩, -, X166, ⟨Lc166, hQ166, l166, y166, z166⟩, st166⟩ := X165.virtualBack hx (y := y7) (z := y7) hown (mvT hZ (W 73 rfl)) (mvT hZ (W 74 rfl)) (notFace_of_selects (args := #[]) (mvT hZ (W 76 rfl))) (mvT hZ (W 76 rfl)) (mvT hZ (W 75 rfl)) (by decide) (backOf (W := 0) (rmG_claimedOverdueConnectionCount l Z a0 ns hG [] b_163 (0 : Int64) T163.heap n0 Z164 O164 f163_7) hZ (W 77 rfl) (W 16 rfl) (by decide) (by decide)) q166a q166c (g := (mkF m 134 #[.val (.int p0), .val (.long q1), .second, .val (.long q2), .second, .val (.long q3), .second, .val (.int (p0 &&& (3 : Int32))), .val (.ref b154), .val (.ref b_163), .val (.long ((((0 : Int64) + q1) + q2) + q3)), .second, .val (.long ((((((0 : Int64) + q1) + q2) + q3) / ((p0 &&& (3 : Int32)).toInt64)) / (1000000 : Int64))), .second] [(.ref b_163)])) rfl (by rw [hml]; rfl) (Steps.refl _) (argsL := []) (rest := []) (lenOf pd___J rfl) rfl (by show 2 * 0 + _ ≤ _; exact Nat.le_of_eq rfl) (hb hby at_134) (fun _ _ => ⟨rfl, eq165, (by decide : 2 + 0 ≤ _), (by decide : 22 + 0 ≤ _)⟩)
  dsimp only [Pt.U, Pt.locs, Pt.cells, Pt.slots] at X166 l166 y166 z166 st166 hQ166
  subst l166 y166 z166
  obtain ⟨rfl, N166q, eq166⟩ := hQ166
  have N166 := Fr.app N165 N166q
  obtain ⟨cq167, kq167, q167a, q167b, q167c⟩ := isOf hZ eq166 f163_1
  -- pc 144: com/example/cistern/cistern/PoolState.getRequestCount
  obtain ⟨_, _, ⟨T167, L167, k167, n167⟩, -, X167, ⟨Lc167, hQ167, l167, y167, z167⟩, st167⟩ := X166.virtualBack hx (y := y5) (z := y5) hown (mvT hZ (W 78 rfl)) (mvT hZ (W 79 rfl)) (notFace_of_selects (args := #[]) (mvT hZ (W 81 rfl))) (mvT hZ (W 81 rfl)) (mvT hZ (W 80 rfl)) (by decide) (backOf (W := 0) (rmG_requestCount l Z a0 ns hG [] b_163 (0 : Int64) T163.heap n0 Z164 O164 f163_2) hZ (W 82 rfl) (W 16 rfl) (by decide) (by decide)) q167a q167c (g := (mkF m 144 #[.val (.int p0), .val (.long q1), .second, .val (.long q2), .second, .val (.long q3), .second, .val (.int (p0 &&& (3 : Int32))), .val (.ref b154), .val (.ref b_163), .val (.long ((((0 : Int64) + q1) + q2) + q3)), .second, .val (.long ((((((0 : Int64) + q1) + q2) + q3) / ((p0 &&& (3 : Int32)).toInt64)) / (1000000 : Int64))), .second] [(.ref b_163)])) rfl (by rw [hml]; rfl) (Steps.refl _) (argsL := []) (rest := []) (lenOf pd___J rfl) rfl (by show 2 * 0 + _ ≤ _; exact Nat.le_of_eq rfl) (hb hby at_144) (fun _ _ => ⟨rfl, eq166, (by decide : 2 + 0 ≤ _), (by decide : 22 + 0 ≤ _)⟩)
  dsimp only [Pt.U, Pt.locs, Pt.cells, Pt.slots] at X167 l167 y167 z167 st167 hQ167
  subst l167 y167 z167
  obtain ⟨rfl, N167q, eq167⟩ := hQ167
  have N167 := Fr.app N166 N167q
  obtain ⟨cq168, kq168, q168a, q168b, q168c⟩ := isOf hZ eq167 f163_1
  -- pc 154: com/example/cistern/cistern/PoolState.getHadToWaitCount
  obtain ⟨_, _, ⟨T168, L168, k168, n168⟩, -, X168, ⟨Lc168, hQ168, l168, y168, z168⟩, st168⟩ := X167.virtualBack hx (y := y6) (z := y6) hown (mvT hZ (W 83 rfl)) (mvT hZ (W 84 rfl)) (notFace_of_selects (args := #[]) (mvT hZ (W 86 rfl))) (mvT hZ (W 86 rfl)) (mvT hZ (W 85 rfl)) (by decide) (backOf (W := 0) (rmG_hadToWaitCount l Z a0 ns hG [] b_163 (0 : Int64) T163.heap n0 Z164 O164 f163_4) hZ (W 87 rfl) (W 16 rfl) (by decide) (by decide)) q168a q168c (g := (mkF m 154 #[.val (.int p0), .val (.long q1), .second, .val (.long q2), .second, .val (.long q3), .second, .val (.int (p0 &&& (3 : Int32))), .val (.ref b154), .val (.ref b_163), .val (.long ((((0 : Int64) + q1) + q2) + q3)), .second, .val (.long ((((((0 : Int64) + q1) + q2) + q3) / ((p0 &&& (3 : Int32)).toInt64)) / (1000000 : Int64))), .second] [(.ref b_163)])) rfl (by rw [hml]; rfl) (Steps.refl _) (argsL := []) (rest := []) (lenOf pd___J rfl) rfl (by show 2 * 0 + _ ≤ _; exact Nat.le_of_eq rfl) (hb hby at_154) (fun _ _ => ⟨rfl, eq167, (by decide : 2 + 0 ≤ _), (by decide : 22 + 0 ≤ _)⟩)
  dsimp only [Pt.U, Pt.locs, Pt.cells, Pt.slots] at X168 l168 y168 z168 st168 hQ168
  subst l168 y168 z168
  obtain ⟨rfl, N168q, eq168⟩ := hQ168
  have N168 := Fr.app N167 N168q
  obtain ⟨cq169, kq169, q169a, q169b, q169c⟩ := isOf hZ eq168 f163_1
  -- pc 164: com/example/cistern/cistern/PoolState.getConnectionsOpened
  obtain ⟨_, _, ⟨T169, L169, k169, n169⟩, -, X169, ⟨Lc169, hQ169, l169, y169, z169⟩, st169⟩ := X168.virtualBack hx (y := y9) (z := y9) hown (mvT hZ (W 88 rfl)) (mvT hZ (W 89 rfl)) (notFace_of_selects (args := #[]) (mvT hZ (W 91 rfl))) (mvT hZ (W 91 rfl)) (mvT hZ (W 90 rfl)) (by decide) (backOf (W := 0) (rmG_connectionsOpened l Z a0 ns hG [] b_163 (0 : Int64) T163.heap n0 Z164 O164 f163_13) hZ (W 92 rfl) (W 16 rfl) (by decide) (by decide)) q169a q169c (g := (mkF m 164 #[.val (.int p0), .val (.long q1), .second, .val (.long q2), .second, .val (.long q3), .second, .val (.int (p0 &&& (3 : Int32))), .val (.ref b154), .val (.ref b_163), .val (.long ((((0 : Int64) + q1) + q2) + q3)), .second, .val (.long ((((((0 : Int64) + q1) + q2) + q3) / ((p0 &&& (3 : Int32)).toInt64)) / (1000000 : Int64))), .second] [(.ref b_163)])) rfl (by rw [hml]; rfl) (Steps.refl _) (argsL := []) (rest := []) (lenOf pd___J rfl) rfl (by show 2 * 0 + _ ≤ _; exact Nat.le_of_eq rfl) (hb hby at_164) (fun _ _ => ⟨rfl, eq168, (by decide : 2 + 0 ≤ _), (by decide : 22 + 0 ≤ _)⟩)
  dsimp only [Pt.U, Pt.locs, Pt.cells, Pt.slots] at X169 l169 y169 z169 st169 hQ169
  subst l169 y169 z169
  obtain ⟨rfl, N169q, eq169⟩ := hQ169
  have N169 := Fr.app N168 N169q
  obtain ⟨fs, hr, hrun, hended, hW, hsame⟩ := X169.leave (v := some (.int (1 : Int32))) (fun h => by rw [Bd.returns] at h; cases h)
  refine ⟨_, _, pre0 _ ?_, hrun, hended, _, _, rfl, ?_, ⟨_, rfl⟩, hW, hsame.mono (Nat.le_of_ble_eq_true rfl) (Nat.le_of_ble_eq_true rfl)⟩
  · show Steps p.tables e below (s₁.setTop (mkF m 0 #[.val (.int p0), .val (.long q1), .second, .val (.long q2), .second, .val (.long q3), .second, .unset, .unset, .unset, .unset, .unset, .unset, .unset] [])) _
    refine XS.iloadN X0.here hx rfl (hb hby at_0) rfl ?_
    show Steps p.tables e below (s₁.setTop (mkF m 1 #[.val (.int p0), .val (.long q1), .second, .val (.long q2), .second, .val (.long q3), .second, .unset, .unset, .unset, .unset, .unset, .unset, .unset] [(.int p0)])) _
    refine XS.iconst X0.here hx rfl (hb hby at_1) ?_
    show Steps p.tables e below (s₁.setTop (mkF m 2 #[.val (.int p0), .val (.long q1), .second, .val (.long q2), .second, .val (.long q3), .second, .unset, .unset, .unset, .unset, .unset, .unset, .unset] [(.int (3 : Int32)), (.int p0)])) _
    refine XS.iand X0.here hx rfl (hb hby at_2) rfl ?_
    show Steps p.tables e below (s₁.setTop (mkF m 3 #[.val (.int p0), .val (.long q1), .second, .val (.long q2), .second, .val (.long q3), .second, .unset, .unset, .unset, .unset, .unset, .unset, .unset] [(.int (p0 &&& (3 : Int32)))])) _
    refine XS.istore X0.here hx rfl (hb hby at_3) rfl (l' := #[.val (.int p0), .val (.long q1), .second, .val (.long q2), .second, .val (.long q3), .second, .val (.int (p0 &&& (3 : Int32))), .unset, .unset, .unset, .unset, .unset, .unset]) rfl ?_
    show Steps p.tables e below (s₁.setTop (mkF m 5 #[.val (.int p0), .val (.long q1), .second, .val (.long q2), .second, .val (.long q3), .second, .val (.int (p0 &&& (3 : Int32))), .unset, .unset, .unset, .unset, .unset, .unset] [])) _
    refine st154 _ ?_
    show Steps p.tables e below (T154.setTop (mkF m 8 #[.val (.int p0), .val (.long q1), .second, .val (.long q2), .second, .val (.long q3), .second, .val (.int (p0 &&& (3 : Int32))), .unset, .unset, .unset, .unset, .unset, .unset] [(.ref b154)])) _
    refine XS.dup X154.here hx rfl (hb hby at_8) rfl rfl ?_
    show Steps p.tables e below (T154.setTop (mkF m 9 #[.val (.int p0), .val (.long q1), .second, .val (.long q2), .second, .val (.long q3), .second, .val (.int (p0 &&& (3 : Int32))), .unset, .unset, .unset, .unset, .unset, .unset] [(.ref b154), (.ref b154)])) _
    refine st156.trans ?_
    show Steps p.tables e below (T156.setTop (mkF m 12 #[.val (.int p0), .val (.long q1), .second, .val (.long q2), .second, .val (.long q3), .second, .val (.int (p0 &&& (3 : Int32))), .unset, .unset, .unset, .unset, .unset, .unset] [(.ref b154)])) _
    refine XS.astore X156.here hx rfl (hb hby at_12) rfl rfl (l' := #[.val (.int p0), .val (.long q1), .second, .val (.long q2), .second, .val (.long q3), .second, .val (.int (p0 &&& (3 : Int32))), .val (.ref b154), .unset, .unset, .unset, .unset, .unset]) rfl ?_
    show Steps p.tables e below (T156.setTop (mkF m 14 #[.val (.int p0), .val (.long q1), .second, .val (.long q2), .second, .val (.long q3), .second, .val (.int (p0 &&& (3 : Int32))), .val (.ref b154), .unset, .unset, .unset, .unset, .unset] [])) _
    refine XS.iload X156.here hx rfl (hb hby at_14) rfl ?_
    show Steps p.tables e below (T156.setTop (mkF m 16 #[.val (.int p0), .val (.long q1), .second, .val (.long q2), .second, .val (.long q3), .second, .val (.int (p0 &&& (3 : Int32))), .val (.ref b154), .unset, .unset, .unset, .unset, .unset] [(.int (p0 &&& (3 : Int32)))])) _
    refine XS.iconst X156.here hx rfl (hb hby at_16) ?_
    show Steps p.tables e below (T156.setTop (mkF m 17 #[.val (.int p0), .val (.long q1), .second, .val (.long q2), .second, .val (.long q3), .second, .val (.int (p0 &&& (3 : Int32))), .val (.ref b154), .unset, .unset, .unset, .unset, .unset] [(.int (1 : Int32)), (.int (p0 &&& (3 : Int32)))])) _
    refine XS.icmpNo X156.here hx rfl (hb hby at_17) rfl (flt (by rw [hn] <;> decide : ¬ ((p0 &&& (3 : Int32)) < (1 : Int32)))).1 ?_
    show Steps p.tables e below (T156.setTop (mkF m 20 #[.val (.int p0), .val (.long q1), .second, .val (.long q2), .second, .val (.long q3), .second, .val (.int (p0 &&& (3 : Int32))), .val (.ref b154), .unset, .unset, .unset, .unset, .unset] [])) _
    refine XS.aload X156.here hx rfl (hb hby at_20) rfl rfl ?_
    show Steps p.tables e below (T156.setTop (mkF m 22 #[.val (.int p0), .val (.long q1), .second, .val (.long q2), .second, .val (.long q3), .second, .val (.int (p0 &&& (3 : Int32))), .val (.ref b154), .unset, .unset, .unset, .unset, .unset] [(.ref b154)])) _
    refine XS.lloadN X156.here hx rfl (hb hby at_22) rfl ?_
    show Steps p.tables e below (T156.setTop (mkF m 23 #[.val (.int p0), .val (.long q1), .second, .val (.long q2), .second, .val (.long q3), .second, .val (.int (p0 &&& (3 : Int32))), .val (.ref b154), .unset, .unset, .unset, .unset, .unset] [(.long q1), (.ref b154)])) _
    refine st157.trans ?_
    show Steps p.tables e below (T157.setTop (mkF m 26 #[.val (.int p0), .val (.long q1), .second, .val (.long q2), .second, .val (.long q3), .second, .val (.int (p0 &&& (3 : Int32))), .val (.ref b154), .unset, .unset, .unset, .unset, .unset] [])) _
    refine XS.iload X157.here hx rfl (hb hby at_26) rfl ?_
    show Steps p.tables e below (T157.setTop (mkF m 28 #[.val (.int p0), .val (.long q1), .second, .val (.long q2), .second, .val (.long q3), .second, .val (.int (p0 &&& (3 : Int32))), .val (.ref b154), .unset, .unset, .unset, .unset, .unset] [(.int (p0 &&& (3 : Int32)))])) _
    refine XS.iconst X157.here hx rfl (hb hby at_28) ?_
    show Steps p.tables e below (T157.setTop (mkF m 29 #[.val (.int p0), .val (.long q1), .second, .val (.long q2), .second, .val (.long q3), .second, .val (.int (p0 &&& (3 : Int32))), .val (.ref b154), .unset, .unset, .unset, .unset, .unset] [(.int (2 : Int32)), (.int (p0 &&& (3 : Int32)))])) _
    refine XS.icmpNo X157.here hx rfl (hb hby at_29) rfl (flt (by rw [hn] <;> decide : ¬ ((p0 &&& (3 : Int32)) < (2 : Int32)))).1 ?_
    show Steps p.tables e below (T157.setTop (mkF m 32 #[.val (.int p0), .val (.long q1), .second, .val (.long q2), .second, .val (.long q3), .second, .val (.int (p0 &&& (3 : Int32))), .val (.ref b154), .unset, .unset, .unset, .unset, .unset] [])) _
    refine XS.aload X157.here hx rfl (hb hby at_32) rfl rfl ?_
    show Steps p.tables e below (T157.setTop (mkF m 34 #[.val (.int p0), .val (.long q1), .second, .val (.long q2), .second, .val (.long q3), .second, .val (.int (p0 &&& (3 : Int32))), .val (.ref b154), .unset, .unset, .unset, .unset, .unset] [(.ref b154)])) _
    refine XS.lloadN X157.here hx rfl (hb hby at_34) rfl ?_
    show Steps p.tables e below (T157.setTop (mkF m 35 #[.val (.int p0), .val (.long q1), .second, .val (.long q2), .second, .val (.long q3), .second, .val (.int (p0 &&& (3 : Int32))), .val (.ref b154), .unset, .unset, .unset, .unset, .unset] [(.long q2), (.ref b154)])) _
    refine st159.trans ?_
    show Steps p.tables e below (T159.setTop (mkF m 38 #[.val (.int p0), .val (.long q1), .second, .val (.long q2), .second, .val (.long q3), .second, .val (.int (p0 &&& (3 : Int32))), .val (.ref b154), .unset, .unset, .unset, .unset, .unset] [])) _
    refine XS.iload X159.here hx rfl (hb hby at_38) rfl ?_
    show Steps p.tables e below (T159.setTop (mkF m 40 #[.val (.int p0), .val (.long q1), .second, .val (.long q2), .second, .val (.long q3), .second, .val (.int (p0 &&& (3 : Int32))), .val (.ref b154), .unset, .unset, .unset, .unset, .unset] [(.int (p0 &&& (3 : Int32)))])) _
    refine XS.iconst X159.here hx rfl (hb hby at_40) ?_
    show Steps p.tables e below (T159.setTop (mkF m 41 #[.val (.int p0), .val (.long q1), .second, .val (.long q2), .second, .val (.long q3), .second, .val (.int (p0 &&& (3 : Int32))), .val (.ref b154), .unset, .unset, .unset, .unset, .unset] [(.int (3 : Int32)), (.int (p0 &&& (3 : Int32)))])) _
    refine XS.icmpNo X159.here hx rfl (hb hby at_41) rfl (flt (by rw [hn] <;> decide : ¬ ((p0 &&& (3 : Int32)) < (3 : Int32)))).1 ?_
    show Steps p.tables e below (T159.setTop (mkF m 44 #[.val (.int p0), .val (.long q1), .second, .val (.long q2), .second, .val (.long q3), .second, .val (.int (p0 &&& (3 : Int32))), .val (.ref b154), .unset, .unset, .unset, .unset, .unset] [])) _
    refine XS.aload X159.here hx rfl (hb hby at_44) rfl rfl ?_
    show Steps p.tables e below (T159.setTop (mkF m 46 #[.val (.int p0), .val (.long q1), .second, .val (.long q2), .second, .val (.long q3), .second, .val (.int (p0 &&& (3 : Int32))), .val (.ref b154), .unset, .unset, .unset, .unset, .unset] [(.ref b154)])) _
    refine XS.lload X159.here hx rfl (hb hby at_46) rfl ?_
    show Steps p.tables e below (T159.setTop (mkF m 48 #[.val (.int p0), .val (.long q1), .second, .val (.long q2), .second, .val (.long q3), .second, .val (.int (p0 &&& (3 : Int32))), .val (.ref b154), .unset, .unset, .unset, .unset, .unset] [(.long q3), (.ref b154)])) _
    refine st161.trans ?_
    show Steps p.tables e below (T161.setTop (mkF m 51 #[.val (.int p0), .val (.long q1), .second, .val (.long q2), .second, .val (.long q3), .second, .val (.int (p0 &&& (3 : Int32))), .val (.ref b154), .unset, .unset, .unset, .unset, .unset] [])) _
    refine XS.aload X161.here hx rfl (hb hby at_51) rfl rfl ?_
    show Steps p.tables e below (T161.setTop (mkF m 53 #[.val (.int p0), .val (.long q1), .second, .val (.long q2), .second, .val (.long q3), .second, .val (.int (p0 &&& (3 : Int32))), .val (.ref b154), .unset, .unset, .unset, .unset, .unset] [(.ref b154)])) _
    refine XS.iconst X161.here hx rfl (hb hby at_53) ?_
    show Steps p.tables e below (T161.setTop (mkF m 54 #[.val (.int p0), .val (.long q1), .second, .val (.long q2), .second, .val (.long q3), .second, .val (.int (p0 &&& (3 : Int32))), .val (.ref b154), .unset, .unset, .unset, .unset, .unset] [(.int (0 : Int32)), (.ref b154)])) _
    refine XS.iconst X161.here hx rfl (hb hby at_54) ?_
    show Steps p.tables e below (T161.setTop (mkF m 55 #[.val (.int p0), .val (.long q1), .second, .val (.long q2), .second, .val (.long q3), .second, .val (.int (p0 &&& (3 : Int32))), .val (.ref b154), .unset, .unset, .unset, .unset, .unset] [(.int (0 : Int32)), (.int (0 : Int32)), (.ref b154)])) _
    refine XS.iconst X161.here hx rfl (hb hby at_55) ?_
    show Steps p.tables e below (T161.setTop (mkF m 56 #[.val (.int p0), .val (.long q1), .second, .val (.long q2), .second, .val (.long q3), .second, .val (.int (p0 &&& (3 : Int32))), .val (.ref b154), .unset, .unset, .unset, .unset, .unset] [(.int (0 : Int32)), (.int (0 : Int32)), (.int (0 : Int32)), (.ref b154)])) _
    refine st163.trans ?_
    show Steps p.tables e below (T163.setTop (mkF m 59 #[.val (.int p0), .val (.long q1), .second, .val (.long q2), .second, .val (.long q3), .second, .val (.int (p0 &&& (3 : Int32))), .val (.ref b154), .unset, .unset, .unset, .unset, .unset] [(.ref b_163)])) _
    refine XS.astore X163.here hx rfl (hb hby at_59) rfl rfl (l' := #[.val (.int p0), .val (.long q1), .second, .val (.long q2), .second, .val (.long q3), .second, .val (.int (p0 &&& (3 : Int32))), .val (.ref b154), .val (.ref b_163), .unset, .unset, .unset, .unset]) rfl ?_
    show Steps p.tables e below (T163.setTop (mkF m 61 #[.val (.int p0), .val (.long q1), .second, .val (.long q2), .second, .val (.long q3), .second, .val (.int (p0 &&& (3 : Int32))), .val (.ref b154), .val (.ref b_163), .unset, .unset, .unset, .unset] [])) _
    refine XS.lconst X163.here hx rfl (hb hby at_61) ?_
    show Steps p.tables e below (T163.setTop (mkF m 62 #[.val (.int p0), .val (.long q1), .second, .val (.long q2), .second, .val (.long q3), .second, .val (.int (p0 &&& (3 : Int32))), .val (.ref b154), .val (.ref b_163), .unset, .unset, .unset, .unset] [(.long (0 : Int64))])) _
    refine XS.lstore X163.here hx rfl (hb hby at_62) rfl (l' := #[.val (.int p0), .val (.long q1), .second, .val (.long q2), .second, .val (.long q3), .second, .val (.int (p0 &&& (3 : Int32))), .val (.ref b154), .val (.ref b_163), .val (.long (0 : Int64)), .second, .unset, .unset]) rfl ?_
    show Steps p.tables e below (T163.setTop (mkF m 64 #[.val (.int p0), .val (.long q1), .second, .val (.long q2), .second, .val (.long q3), .second, .val (.int (p0 &&& (3 : Int32))), .val (.ref b154), .val (.ref b_163), .val (.long (0 : Int64)), .second, .unset, .unset] [])) _
    refine XS.iload X163.here hx rfl (hb hby at_64) rfl ?_
    show Steps p.tables e below (T163.setTop (mkF m 66 #[.val (.int p0), .val (.long q1), .second, .val (.long q2), .second, .val (.long q3), .second, .val (.int (p0 &&& (3 : Int32))), .val (.ref b154), .val (.ref b_163), .val (.long (0 : Int64)), .second, .unset, .unset] [(.int (p0 &&& (3 : Int32)))])) _
    refine XS.iconst X163.here hx rfl (hb hby at_66) ?_
    show Steps p.tables e below (T163.setTop (mkF m 67 #[.val (.int p0), .val (.long q1), .second, .val (.long q2), .second, .val (.long q3), .second, .val (.int (p0 &&& (3 : Int32))), .val (.ref b154), .val (.ref b_163), .val (.long (0 : Int64)), .second, .unset, .unset] [(.int (1 : Int32)), (.int (p0 &&& (3 : Int32)))])) _
    refine XS.icmpNo X163.here hx rfl (hb hby at_67) rfl (flt (by rw [hn] <;> decide : ¬ ((p0 &&& (3 : Int32)) < (1 : Int32)))).1 ?_
    show Steps p.tables e below (T163.setTop (mkF m 70 #[.val (.int p0), .val (.long q1), .second, .val (.long q2), .second, .val (.long q3), .second, .val (.int (p0 &&& (3 : Int32))), .val (.ref b154), .val (.ref b_163), .val (.long (0 : Int64)), .second, .unset, .unset] [])) _
    refine XS.lload X163.here hx rfl (hb hby at_70) rfl ?_
    show Steps p.tables e below (T163.setTop (mkF m 72 #[.val (.int p0), .val (.long q1), .second, .val (.long q2), .second, .val (.long q3), .second, .val (.int (p0 &&& (3 : Int32))), .val (.ref b154), .val (.ref b_163), .val (.long (0 : Int64)), .second, .unset, .unset] [(.long (0 : Int64))])) _
    refine XS.lloadN X163.here hx rfl (hb hby at_72) rfl ?_
    show Steps p.tables e below (T163.setTop (mkF m 73 #[.val (.int p0), .val (.long q1), .second, .val (.long q2), .second, .val (.long q3), .second, .val (.int (p0 &&& (3 : Int32))), .val (.ref b154), .val (.ref b_163), .val (.long (0 : Int64)), .second, .unset, .unset] [(.long q1), (.long (0 : Int64))])) _
    refine XS.ladd X163.here hx rfl (hb hby at_73) rfl ?_
    show Steps p.tables e below (T163.setTop (mkF m 74 #[.val (.int p0), .val (.long q1), .second, .val (.long q2), .second, .val (.long q3), .second, .val (.int (p0 &&& (3 : Int32))), .val (.ref b154), .val (.ref b_163), .val (.long (0 : Int64)), .second, .unset, .unset] [(.long ((0 : Int64) + q1))])) _
    refine XS.lstore X163.here hx rfl (hb hby at_74) rfl (l' := #[.val (.int p0), .val (.long q1), .second, .val (.long q2), .second, .val (.long q3), .second, .val (.int (p0 &&& (3 : Int32))), .val (.ref b154), .val (.ref b_163), .val (.long ((0 : Int64) + q1)), .second, .unset, .unset]) rfl ?_
    show Steps p.tables e below (T163.setTop (mkF m 76 #[.val (.int p0), .val (.long q1), .second, .val (.long q2), .second, .val (.long q3), .second, .val (.int (p0 &&& (3 : Int32))), .val (.ref b154), .val (.ref b_163), .val (.long ((0 : Int64) + q1)), .second, .unset, .unset] [])) _
    refine XS.iload X163.here hx rfl (hb hby at_76) rfl ?_
    show Steps p.tables e below (T163.setTop (mkF m 78 #[.val (.int p0), .val (.long q1), .second, .val (.long q2), .second, .val (.long q3), .second, .val (.int (p0 &&& (3 : Int32))), .val (.ref b154), .val (.ref b_163), .val (.long ((0 : Int64) + q1)), .second, .unset, .unset] [(.int (p0 &&& (3 : Int32)))])) _
    refine XS.iconst X163.here hx rfl (hb hby at_78) ?_
    show Steps p.tables e below (T163.setTop (mkF m 79 #[.val (.int p0), .val (.long q1), .second, .val (.long q2), .second, .val (.long q3), .second, .val (.int (p0 &&& (3 : Int32))), .val (.ref b154), .val (.ref b_163), .val (.long ((0 : Int64) + q1)), .second, .unset, .unset] [(.int (2 : Int32)), (.int (p0 &&& (3 : Int32)))])) _
    refine XS.icmpNo X163.here hx rfl (hb hby at_79) rfl (flt (by rw [hn] <;> decide : ¬ ((p0 &&& (3 : Int32)) < (2 : Int32)))).1 ?_
    show Steps p.tables e below (T163.setTop (mkF m 82 #[.val (.int p0), .val (.long q1), .second, .val (.long q2), .second, .val (.long q3), .second, .val (.int (p0 &&& (3 : Int32))), .val (.ref b154), .val (.ref b_163), .val (.long ((0 : Int64) + q1)), .second, .unset, .unset] [])) _
    refine XS.lload X163.here hx rfl (hb hby at_82) rfl ?_
    show Steps p.tables e below (T163.setTop (mkF m 84 #[.val (.int p0), .val (.long q1), .second, .val (.long q2), .second, .val (.long q3), .second, .val (.int (p0 &&& (3 : Int32))), .val (.ref b154), .val (.ref b_163), .val (.long ((0 : Int64) + q1)), .second, .unset, .unset] [(.long ((0 : Int64) + q1))])) _
    refine XS.lloadN X163.here hx rfl (hb hby at_84) rfl ?_
    show Steps p.tables e below (T163.setTop (mkF m 85 #[.val (.int p0), .val (.long q1), .second, .val (.long q2), .second, .val (.long q3), .second, .val (.int (p0 &&& (3 : Int32))), .val (.ref b154), .val (.ref b_163), .val (.long ((0 : Int64) + q1)), .second, .unset, .unset] [(.long q2), (.long ((0 : Int64) + q1))])) _
    refine XS.ladd X163.here hx rfl (hb hby at_85) rfl ?_
    show Steps p.tables e below (T163.setTop (mkF m 86 #[.val (.int p0), .val (.long q1), .second, .val (.long q2), .second, .val (.long q3), .second, .val (.int (p0 &&& (3 : Int32))), .val (.ref b154), .val (.ref b_163), .val (.long ((0 : Int64) + q1)), .second, .unset, .unset] [(.long (((0 : Int64) + q1) + q2))])) _
    refine XS.lstore X163.here hx rfl (hb hby at_86) rfl (l' := #[.val (.int p0), .val (.long q1), .second, .val (.long q2), .second, .val (.long q3), .second, .val (.int (p0 &&& (3 : Int32))), .val (.ref b154), .val (.ref b_163), .val (.long (((0 : Int64) + q1) + q2)), .second, .unset, .unset]) rfl ?_
    show Steps p.tables e below (T163.setTop (mkF m 88 #[.val (.int p0), .val (.long q1), .second, .val (.long q2), .second, .val (.long q3), .second, .val (.int (p0 &&& (3 : Int32))), .val (.ref b154), .val (.ref b_163), .val (.long (((0 : Int64) + q1) + q2)), .second, .unset, .unset] [])) _
    refine XS.iload X163.here hx rfl (hb hby at_88) rfl ?_
    show Steps p.tables e below (T163.setTop (mkF m 90 #[.val (.int p0), .val (.long q1), .second, .val (.long q2), .second, .val (.long q3), .second, .val (.int (p0 &&& (3 : Int32))), .val (.ref b154), .val (.ref b_163), .val (.long (((0 : Int64) + q1) + q2)), .second, .unset, .unset] [(.int (p0 &&& (3 : Int32)))])) _
    refine XS.iconst X163.here hx rfl (hb hby at_90) ?_
    show Steps p.tables e below (T163.setTop (mkF m 91 #[.val (.int p0), .val (.long q1), .second, .val (.long q2), .second, .val (.long q3), .second, .val (.int (p0 &&& (3 : Int32))), .val (.ref b154), .val (.ref b_163), .val (.long (((0 : Int64) + q1) + q2)), .second, .unset, .unset] [(.int (3 : Int32)), (.int (p0 &&& (3 : Int32)))])) _
    refine XS.icmpNo X163.here hx rfl (hb hby at_91) rfl (flt (by rw [hn] <;> decide : ¬ ((p0 &&& (3 : Int32)) < (3 : Int32)))).1 ?_
    show Steps p.tables e below (T163.setTop (mkF m 94 #[.val (.int p0), .val (.long q1), .second, .val (.long q2), .second, .val (.long q3), .second, .val (.int (p0 &&& (3 : Int32))), .val (.ref b154), .val (.ref b_163), .val (.long (((0 : Int64) + q1) + q2)), .second, .unset, .unset] [])) _
    refine XS.lload X163.here hx rfl (hb hby at_94) rfl ?_
    show Steps p.tables e below (T163.setTop (mkF m 96 #[.val (.int p0), .val (.long q1), .second, .val (.long q2), .second, .val (.long q3), .second, .val (.int (p0 &&& (3 : Int32))), .val (.ref b154), .val (.ref b_163), .val (.long (((0 : Int64) + q1) + q2)), .second, .unset, .unset] [(.long (((0 : Int64) + q1) + q2))])) _
    refine XS.lload X163.here hx rfl (hb hby at_96) rfl ?_
    show Steps p.tables e below (T163.setTop (mkF m 98 #[.val (.int p0), .val (.long q1), .second, .val (.long q2), .second, .val (.long q3), .second, .val (.int (p0 &&& (3 : Int32))), .val (.ref b154), .val (.ref b_163), .val (.long (((0 : Int64) + q1) + q2)), .second, .unset, .unset] [(.long q3), (.long (((0 : Int64) + q1) + q2))])) _
    refine XS.ladd X163.here hx rfl (hb hby at_98) rfl ?_
    show Steps p.tables e below (T163.setTop (mkF m 99 #[.val (.int p0), .val (.long q1), .second, .val (.long q2), .second, .val (.long q3), .second, .val (.int (p0 &&& (3 : Int32))), .val (.ref b154), .val (.ref b_163), .val (.long (((0 : Int64) + q1) + q2)), .second, .unset, .unset] [(.long ((((0 : Int64) + q1) + q2) + q3))])) _
    refine XS.lstore X163.here hx rfl (hb hby at_99) rfl (l' := #[.val (.int p0), .val (.long q1), .second, .val (.long q2), .second, .val (.long q3), .second, .val (.int (p0 &&& (3 : Int32))), .val (.ref b154), .val (.ref b_163), .val (.long ((((0 : Int64) + q1) + q2) + q3)), .second, .unset, .unset]) rfl ?_
    show Steps p.tables e below (T163.setTop (mkF m 101 #[.val (.int p0), .val (.long q1), .second, .val (.long q2), .second, .val (.long q3), .second, .val (.int (p0 &&& (3 : Int32))), .val (.ref b154), .val (.ref b_163), .val (.long ((((0 : Int64) + q1) + q2) + q3)), .second, .unset, .unset] [])) _
    refine XS.lconst X163.here hx rfl (hb hby at_101) ?_
    show Steps p.tables e below (T163.setTop (mkF m 102 #[.val (.int p0), .val (.long q1), .second, .val (.long q2), .second, .val (.long q3), .second, .val (.int (p0 &&& (3 : Int32))), .val (.ref b154), .val (.ref b_163), .val (.long ((((0 : Int64) + q1) + q2) + q3)), .second, .unset, .unset] [(.long (0 : Int64))])) _
    refine XS.lstore X163.here hx rfl (hb hby at_102) rfl (l' := #[.val (.int p0), .val (.long q1), .second, .val (.long q2), .second, .val (.long q3), .second, .val (.int (p0 &&& (3 : Int32))), .val (.ref b154), .val (.ref b_163), .val (.long ((((0 : Int64) + q1) + q2) + q3)), .second, .val (.long (0 : Int64)), .second]) rfl ?_
    show Steps p.tables e below (T163.setTop (mkF m 104 #[.val (.int p0), .val (.long q1), .second, .val (.long q2), .second, .val (.long q3), .second, .val (.int (p0 &&& (3 : Int32))), .val (.ref b154), .val (.ref b_163), .val (.long ((((0 : Int64) + q1) + q2) + q3)), .second, .val (.long (0 : Int64)), .second] [])) _
    refine XS.iload X163.here hx rfl (hb hby at_104) rfl ?_
    show Steps p.tables e below (T163.setTop (mkF m 106 #[.val (.int p0), .val (.long q1), .second, .val (.long q2), .second, .val (.long q3), .second, .val (.int (p0 &&& (3 : Int32))), .val (.ref b154), .val (.ref b_163), .val (.long ((((0 : Int64) + q1) + q2) + q3)), .second, .val (.long (0 : Int64)), .second] [(.int (p0 &&& (3 : Int32)))])) _
    refine XS.ifNo X163.here hx rfl (hb hby at_106) rfl ((if0 _ _).trans (feq (by rw [hn] <;> decide : ¬ ((p0 &&& (3 : Int32)) = (0 : Int32)))).1) ?_
    show Steps p.tables e below (T163.setTop (mkF m 109 #[.val (.int p0), .val (.long q1), .second, .val (.long q2), .second, .val (.long q3), .second, .val (.int (p0 &&& (3 : Int32))), .val (.ref b154), .val (.ref b_163), .val (.long ((((0 : Int64) + q1) + q2) + q3)), .second, .val (.long (0 : Int64)), .second] [])) _
    refine XS.lload X163.here hx rfl (hb hby at_109) rfl ?_
    show Steps p.tables e below (T163.setTop (mkF m 111 #[.val (.int p0), .val (.long q1), .second, .val (.long q2), .second, .val (.long q3), .second, .val (.int (p0 &&& (3 : Int32))), .val (.ref b154), .val (.ref b_163), .val (.long ((((0 : Int64) + q1) + q2) + q3)), .second, .val (.long (0 : Int64)), .second] [(.long ((((0 : Int64) + q1) + q2) + q3))])) _
    refine XS.iload X163.here hx rfl (hb hby at_111) rfl ?_
    show Steps p.tables e below (T163.setTop (mkF m 113 #[.val (.int p0), .val (.long q1), .second, .val (.long q2), .second, .val (.long q3), .second, .val (.int (p0 &&& (3 : Int32))), .val (.ref b154), .val (.ref b_163), .val (.long ((((0 : Int64) + q1) + q2) + q3)), .second, .val (.long (0 : Int64)), .second] [(.int (p0 &&& (3 : Int32))), (.long ((((0 : Int64) + q1) + q2) + q3))])) _
    refine XS.i2l X163.here hx rfl (hb hby at_113) rfl ?_
    show Steps p.tables e below (T163.setTop (mkF m 114 #[.val (.int p0), .val (.long q1), .second, .val (.long q2), .second, .val (.long q3), .second, .val (.int (p0 &&& (3 : Int32))), .val (.ref b154), .val (.ref b_163), .val (.long ((((0 : Int64) + q1) + q2) + q3)), .second, .val (.long (0 : Int64)), .second] [(.long ((p0 &&& (3 : Int32)).toInt64)), (.long ((((0 : Int64) + q1) + q2) + q3))])) _
    refine XS.ldiv X163.here hx rfl (hb hby at_114) rfl (by rw [hn] <;> decide) ?_
    show Steps p.tables e below (T163.setTop (mkF m 115 #[.val (.int p0), .val (.long q1), .second, .val (.long q2), .second, .val (.long q3), .second, .val (.int (p0 &&& (3 : Int32))), .val (.ref b154), .val (.ref b_163), .val (.long ((((0 : Int64) + q1) + q2) + q3)), .second, .val (.long (0 : Int64)), .second] [(.long (((((0 : Int64) + q1) + q2) + q3) / ((p0 &&& (3 : Int32)).toInt64)))])) _
    refine X163.ldc2Long hx hown (mvT hZ (W 112 rfl)) (g := (mkF m 115 #[.val (.int p0), .val (.long q1), .second, .val (.long q2), .second, .val (.long q3), .second, .val (.int (p0 &&& (3 : Int32))), .val (.ref b154), .val (.ref b_163), .val (.long ((((0 : Int64) + q1) + q2) + q3)), .second, .val (.long (0 : Int64)), .second] [(.long (((((0 : Int64) + q1) + q2) + q3) / ((p0 &&& (3 : Int32)).toInt64)))])) rfl (hb hby at_115) _ ?_
    show Steps p.tables e below (T163.setTop (mkF m 118 #[.val (.int p0), .val (.long q1), .second, .val (.long q2), .second, .val (.long q3), .second, .val (.int (p0 &&& (3 : Int32))), .val (.ref b154), .val (.ref b_163), .val (.long ((((0 : Int64) + q1) + q2) + q3)), .second, .val (.long (0 : Int64)), .second] [(.long (1000000 : Int64)), (.long (((((0 : Int64) + q1) + q2) + q3) / ((p0 &&& (3 : Int32)).toInt64)))])) _
    refine XS.ldiv X163.here hx rfl (hb hby at_118) rfl (by decide) ?_
    show Steps p.tables e below (T163.setTop (mkF m 119 #[.val (.int p0), .val (.long q1), .second, .val (.long q2), .second, .val (.long q3), .second, .val (.int (p0 &&& (3 : Int32))), .val (.ref b154), .val (.ref b_163), .val (.long ((((0 : Int64) + q1) + q2) + q3)), .second, .val (.long (0 : Int64)), .second] [(.long ((((((0 : Int64) + q1) + q2) + q3) / ((p0 &&& (3 : Int32)).toInt64)) / (1000000 : Int64)))])) _
    refine XS.lstore X163.here hx rfl (hb hby at_119) rfl (l' := #[.val (.int p0), .val (.long q1), .second, .val (.long q2), .second, .val (.long q3), .second, .val (.int (p0 &&& (3 : Int32))), .val (.ref b154), .val (.ref b_163), .val (.long ((((0 : Int64) + q1) + q2) + q3)), .second, .val (.long ((((((0 : Int64) + q1) + q2) + q3) / ((p0 &&& (3 : Int32)).toInt64)) / (1000000 : Int64))), .second]) rfl ?_
    show Steps p.tables e below (T163.setTop (mkF m 121 #[.val (.int p0), .val (.long q1), .second, .val (.long q2), .second, .val (.long q3), .second, .val (.int (p0 &&& (3 : Int32))), .val (.ref b154), .val (.ref b_163), .val (.long ((((0 : Int64) + q1) + q2) + q3)), .second, .val (.long ((((((0 : Int64) + q1) + q2) + q3) / ((p0 &&& (3 : Int32)).toInt64)) / (1000000 : Int64))), .second] [])) _
    refine XS.aload X163.here hx rfl (hb hby at_121) rfl rfl ?_
    show Steps p.tables e below (T163.setTop (mkF m 123 #[.val (.int p0), .val (.long q1), .second, .val (.long q2), .second, .val (.long q3), .second, .val (.int (p0 &&& (3 : Int32))), .val (.ref b154), .val (.ref b_163), .val (.long ((((0 : Int64) + q1) + q2) + q3)), .second, .val (.long ((((((0 : Int64) + q1) + q2) + q3) / ((p0 &&& (3 : Int32)).toInt64)) / (1000000 : Int64))), .second] [(.ref b_163)])) _
    refine st165.trans ?_
    show Steps p.tables e below (T165.setTop (mkF m 126 #[.val (.int p0), .val (.long q1), .second, .val (.long q2), .second, .val (.long q3), .second, .val (.int (p0 &&& (3 : Int32))), .val (.ref b154), .val (.ref b_163), .val (.long ((((0 : Int64) + q1) + q2) + q3)), .second, .val (.long ((((((0 : Int64) + q1) + q2) + q3) / ((p0 &&& (3 : Int32)).toInt64)) / (1000000 : Int64))), .second] [(.long (own_avg ((((0 : Int64) + q1) + q2) + q3) ((((0 : Int64) + (1 : Int64)) + (1 : Int64)) + (1 : Int64))))])) _
    refine XS.lload X165.here hx rfl (hb hby at_126) rfl ?_
    show Steps p.tables e below (T165.setTop (mkF m 128 #[.val (.int p0), .val (.long q1), .second, .val (.long q2), .second, .val (.long q3), .second, .val (.int (p0 &&& (3 : Int32))), .val (.ref b154), .val (.ref b_163), .val (.long ((((0 : Int64) + q1) + q2) + q3)), .second, .val (.long ((((((0 : Int64) + q1) + q2) + q3) / ((p0 &&& (3 : Int32)).toInt64)) / (1000000 : Int64))), .second] [(.long ((((((0 : Int64) + q1) + q2) + q3) / ((p0 &&& (3 : Int32)).toInt64)) / (1000000 : Int64))), (.long (own_avg ((((0 : Int64) + q1) + q2) + q3) ((((0 : Int64) + (1 : Int64)) + (1 : Int64)) + (1 : Int64))))])) _
    refine XS.lcmp X165.here hx rfl (hb hby at_128) rfl ?_
    show Steps p.tables e below (T165.setTop (mkF m 129 #[.val (.int p0), .val (.long q1), .second, .val (.long q2), .second, .val (.long q3), .second, .val (.int (p0 &&& (3 : Int32))), .val (.ref b154), .val (.ref b_163), .val (.long ((((0 : Int64) + q1) + q2) + q3)), .second, .val (.long ((((((0 : Int64) + q1) + q2) + q3) / ((p0 &&& (3 : Int32)).toInt64)) / (1000000 : Int64))), .second] [(.int (lcmpW (own_avg ((((0 : Int64) + q1) + q2) + q3) ((((0 : Int64) + (1 : Int64)) + (1 : Int64)) + (1 : Int64))) ((((((0 : Int64) + q1) + q2) + q3) / ((p0 &&& (3 : Int32)).toInt64)) / (1000000 : Int64))))])) _
    refine XS.ifNo X165.here hx rfl (hb hby at_129) rfl ((if0 _ _).trans (teq ((lw_eq _ _).mpr (own_avg_eq (by decide) (by rw [hn] <;> decide)) : (lcmpW (own_avg ((((0 : Int64) + q1) + q2) + q3) ((((0 : Int64) + (1 : Int64)) + (1 : Int64)) + (1 : Int64))) ((((((0 : Int64) + q1) + q2) + q3) / ((p0 &&& (3 : Int32)).toInt64)) / (1000000 : Int64))) = (0 : Int32))).2) ?_
    show Steps p.tables e below (T165.setTop (mkF m 132 #[.val (.int p0), .val (.long q1), .second, .val (.long q2), .second, .val (.long q3), .second, .val (.int (p0 &&& (3 : Int32))), .val (.ref b154), .val (.ref b_163), .val (.long ((((0 : Int64) + q1) + q2) + q3)), .second, .val (.long ((((((0 : Int64) + q1) + q2) + q3) / ((p0 &&& (3 : Int32)).toInt64)) / (1000000 : Int64))), .second] [])) _
    refine XS.aload X165.here hx rfl (hb hby at_132) rfl rfl ?_
    show Steps p.tables e below (T165.setTop (mkF m 134 #[.val (.int p0), .val (.long q1), .second, .val (.long q2), .second, .val (.long q3), .second, .val (.int (p0 &&& (3 : Int32))), .val (.ref b154), .val (.ref b_163), .val (.long ((((0 : Int64) + q1) + q2) + q3)), .second, .val (.long ((((((0 : Int64) + q1) + q2) + q3) / ((p0 &&& (3 : Int32)).toInt64)) / (1000000 : Int64))), .second] [(.ref b_163)])) _
    refine st166.trans ?_
    show Steps p.tables e below (T166.setTop (mkF m 137 #[.val (.int p0), .val (.long q1), .second, .val (.long q2), .second, .val (.long q3), .second, .val (.int (p0 &&& (3 : Int32))), .val (.ref b154), .val (.ref b_163), .val (.long ((((0 : Int64) + q1) + q2) + q3)), .second, .val (.long ((((((0 : Int64) + q1) + q2) + q3) / ((p0 &&& (3 : Int32)).toInt64)) / (1000000 : Int64))), .second] [(.long (0 : Int64))])) _
    refine XS.lconst X166.here hx rfl (hb hby at_137) ?_
    show Steps p.tables e below (T166.setTop (mkF m 138 #[.val (.int p0), .val (.long q1), .second, .val (.long q2), .second, .val (.long q3), .second, .val (.int (p0 &&& (3 : Int32))), .val (.ref b154), .val (.ref b_163), .val (.long ((((0 : Int64) + q1) + q2) + q3)), .second, .val (.long ((((((0 : Int64) + q1) + q2) + q3) / ((p0 &&& (3 : Int32)).toInt64)) / (1000000 : Int64))), .second] [(.long (0 : Int64)), (.long (0 : Int64))])) _
    refine XS.lcmp X166.here hx rfl (hb hby at_138) rfl ?_
    show Steps p.tables e below (T166.setTop (mkF m 139 #[.val (.int p0), .val (.long q1), .second, .val (.long q2), .second, .val (.long q3), .second, .val (.int (p0 &&& (3 : Int32))), .val (.ref b154), .val (.ref b_163), .val (.long ((((0 : Int64) + q1) + q2) + q3)), .second, .val (.long ((((((0 : Int64) + q1) + q2) + q3) / ((p0 &&& (3 : Int32)).toInt64)) / (1000000 : Int64))), .second] [(.int (lcmpW (0 : Int64) (0 : Int64)))])) _
    refine XS.ifNo X166.here hx rfl (hb hby at_139) rfl ((if0 _ _).trans (teq ((lw_eq _ _).mpr rfl : (lcmpW (0 : Int64) (0 : Int64)) = (0 : Int32))).2) ?_
    show Steps p.tables e below (T166.setTop (mkF m 142 #[.val (.int p0), .val (.long q1), .second, .val (.long q2), .second, .val (.long q3), .second, .val (.int (p0 &&& (3 : Int32))), .val (.ref b154), .val (.ref b_163), .val (.long ((((0 : Int64) + q1) + q2) + q3)), .second, .val (.long ((((((0 : Int64) + q1) + q2) + q3) / ((p0 &&& (3 : Int32)).toInt64)) / (1000000 : Int64))), .second] [])) _
    refine XS.aload X166.here hx rfl (hb hby at_142) rfl rfl ?_
    show Steps p.tables e below (T166.setTop (mkF m 144 #[.val (.int p0), .val (.long q1), .second, .val (.long q2), .second, .val (.long q3), .second, .val (.int (p0 &&& (3 : Int32))), .val (.ref b154), .val (.ref b_163), .val (.long ((((0 : Int64) + q1) + q2) + q3)), .second, .val (.long ((((((0 : Int64) + q1) + q2) + q3) / ((p0 &&& (3 : Int32)).toInt64)) / (1000000 : Int64))), .second] [(.ref b_163)])) _
    refine st167.trans ?_
    show Steps p.tables e below (T167.setTop (mkF m 147 #[.val (.int p0), .val (.long q1), .second, .val (.long q2), .second, .val (.long q3), .second, .val (.int (p0 &&& (3 : Int32))), .val (.ref b154), .val (.ref b_163), .val (.long ((((0 : Int64) + q1) + q2) + q3)), .second, .val (.long ((((((0 : Int64) + q1) + q2) + q3) / ((p0 &&& (3 : Int32)).toInt64)) / (1000000 : Int64))), .second] [(.long (0 : Int64))])) _
    refine XS.lconst X167.here hx rfl (hb hby at_147) ?_
    show Steps p.tables e below (T167.setTop (mkF m 148 #[.val (.int p0), .val (.long q1), .second, .val (.long q2), .second, .val (.long q3), .second, .val (.int (p0 &&& (3 : Int32))), .val (.ref b154), .val (.ref b_163), .val (.long ((((0 : Int64) + q1) + q2) + q3)), .second, .val (.long ((((((0 : Int64) + q1) + q2) + q3) / ((p0 &&& (3 : Int32)).toInt64)) / (1000000 : Int64))), .second] [(.long (0 : Int64)), (.long (0 : Int64))])) _
    refine XS.lcmp X167.here hx rfl (hb hby at_148) rfl ?_
    show Steps p.tables e below (T167.setTop (mkF m 149 #[.val (.int p0), .val (.long q1), .second, .val (.long q2), .second, .val (.long q3), .second, .val (.int (p0 &&& (3 : Int32))), .val (.ref b154), .val (.ref b_163), .val (.long ((((0 : Int64) + q1) + q2) + q3)), .second, .val (.long ((((((0 : Int64) + q1) + q2) + q3) / ((p0 &&& (3 : Int32)).toInt64)) / (1000000 : Int64))), .second] [(.int (lcmpW (0 : Int64) (0 : Int64)))])) _
    refine XS.ifNo X167.here hx rfl (hb hby at_149) rfl ((if0 _ _).trans (teq ((lw_eq _ _).mpr rfl : (lcmpW (0 : Int64) (0 : Int64)) = (0 : Int32))).2) ?_
    show Steps p.tables e below (T167.setTop (mkF m 152 #[.val (.int p0), .val (.long q1), .second, .val (.long q2), .second, .val (.long q3), .second, .val (.int (p0 &&& (3 : Int32))), .val (.ref b154), .val (.ref b_163), .val (.long ((((0 : Int64) + q1) + q2) + q3)), .second, .val (.long ((((((0 : Int64) + q1) + q2) + q3) / ((p0 &&& (3 : Int32)).toInt64)) / (1000000 : Int64))), .second] [])) _
    refine XS.aload X167.here hx rfl (hb hby at_152) rfl rfl ?_
    show Steps p.tables e below (T167.setTop (mkF m 154 #[.val (.int p0), .val (.long q1), .second, .val (.long q2), .second, .val (.long q3), .second, .val (.int (p0 &&& (3 : Int32))), .val (.ref b154), .val (.ref b_163), .val (.long ((((0 : Int64) + q1) + q2) + q3)), .second, .val (.long ((((((0 : Int64) + q1) + q2) + q3) / ((p0 &&& (3 : Int32)).toInt64)) / (1000000 : Int64))), .second] [(.ref b_163)])) _
    refine st168.trans ?_
    show Steps p.tables e below (T168.setTop (mkF m 157 #[.val (.int p0), .val (.long q1), .second, .val (.long q2), .second, .val (.long q3), .second, .val (.int (p0 &&& (3 : Int32))), .val (.ref b154), .val (.ref b_163), .val (.long ((((0 : Int64) + q1) + q2) + q3)), .second, .val (.long ((((((0 : Int64) + q1) + q2) + q3) / ((p0 &&& (3 : Int32)).toInt64)) / (1000000 : Int64))), .second] [(.long (0 : Int64))])) _
    refine XS.lconst X168.here hx rfl (hb hby at_157) ?_
    show Steps p.tables e below (T168.setTop (mkF m 158 #[.val (.int p0), .val (.long q1), .second, .val (.long q2), .second, .val (.long q3), .second, .val (.int (p0 &&& (3 : Int32))), .val (.ref b154), .val (.ref b_163), .val (.long ((((0 : Int64) + q1) + q2) + q3)), .second, .val (.long ((((((0 : Int64) + q1) + q2) + q3) / ((p0 &&& (3 : Int32)).toInt64)) / (1000000 : Int64))), .second] [(.long (0 : Int64)), (.long (0 : Int64))])) _
    refine XS.lcmp X168.here hx rfl (hb hby at_158) rfl ?_
    show Steps p.tables e below (T168.setTop (mkF m 159 #[.val (.int p0), .val (.long q1), .second, .val (.long q2), .second, .val (.long q3), .second, .val (.int (p0 &&& (3 : Int32))), .val (.ref b154), .val (.ref b_163), .val (.long ((((0 : Int64) + q1) + q2) + q3)), .second, .val (.long ((((((0 : Int64) + q1) + q2) + q3) / ((p0 &&& (3 : Int32)).toInt64)) / (1000000 : Int64))), .second] [(.int (lcmpW (0 : Int64) (0 : Int64)))])) _
    refine XS.ifNo X168.here hx rfl (hb hby at_159) rfl ((if0 _ _).trans (teq ((lw_eq _ _).mpr rfl : (lcmpW (0 : Int64) (0 : Int64)) = (0 : Int32))).2) ?_
    show Steps p.tables e below (T168.setTop (mkF m 162 #[.val (.int p0), .val (.long q1), .second, .val (.long q2), .second, .val (.long q3), .second, .val (.int (p0 &&& (3 : Int32))), .val (.ref b154), .val (.ref b_163), .val (.long ((((0 : Int64) + q1) + q2) + q3)), .second, .val (.long ((((((0 : Int64) + q1) + q2) + q3) / ((p0 &&& (3 : Int32)).toInt64)) / (1000000 : Int64))), .second] [])) _
    refine XS.aload X168.here hx rfl (hb hby at_162) rfl rfl ?_
    show Steps p.tables e below (T168.setTop (mkF m 164 #[.val (.int p0), .val (.long q1), .second, .val (.long q2), .second, .val (.long q3), .second, .val (.int (p0 &&& (3 : Int32))), .val (.ref b154), .val (.ref b_163), .val (.long ((((0 : Int64) + q1) + q2) + q3)), .second, .val (.long ((((((0 : Int64) + q1) + q2) + q3) / ((p0 &&& (3 : Int32)).toInt64)) / (1000000 : Int64))), .second] [(.ref b_163)])) _
    refine st169.trans ?_
    show Steps p.tables e below (T169.setTop (mkF m 167 #[.val (.int p0), .val (.long q1), .second, .val (.long q2), .second, .val (.long q3), .second, .val (.int (p0 &&& (3 : Int32))), .val (.ref b154), .val (.ref b_163), .val (.long ((((0 : Int64) + q1) + q2) + q3)), .second, .val (.long ((((((0 : Int64) + q1) + q2) + q3) / ((p0 &&& (3 : Int32)).toInt64)) / (1000000 : Int64))), .second] [(.long (0 : Int64))])) _
    refine XS.lconst X169.here hx rfl (hb hby at_167) ?_
    show Steps p.tables e below (T169.setTop (mkF m 168 #[.val (.int p0), .val (.long q1), .second, .val (.long q2), .second, .val (.long q3), .second, .val (.int (p0 &&& (3 : Int32))), .val (.ref b154), .val (.ref b_163), .val (.long ((((0 : Int64) + q1) + q2) + q3)), .second, .val (.long ((((((0 : Int64) + q1) + q2) + q3) / ((p0 &&& (3 : Int32)).toInt64)) / (1000000 : Int64))), .second] [(.long (0 : Int64)), (.long (0 : Int64))])) _
    refine XS.lcmp X169.here hx rfl (hb hby at_168) rfl ?_
    show Steps p.tables e below (T169.setTop (mkF m 169 #[.val (.int p0), .val (.long q1), .second, .val (.long q2), .second, .val (.long q3), .second, .val (.int (p0 &&& (3 : Int32))), .val (.ref b154), .val (.ref b_163), .val (.long ((((0 : Int64) + q1) + q2) + q3)), .second, .val (.long ((((((0 : Int64) + q1) + q2) + q3) / ((p0 &&& (3 : Int32)).toInt64)) / (1000000 : Int64))), .second] [(.int (lcmpW (0 : Int64) (0 : Int64)))])) _
    refine XS.ifNo X169.here hx rfl (hb hby at_169) rfl ((if0 _ _).trans (teq ((lw_eq _ _).mpr rfl : (lcmpW (0 : Int64) (0 : Int64)) = (0 : Int32))).2) ?_
    show Steps p.tables e below (T169.setTop (mkF m 172 #[.val (.int p0), .val (.long q1), .second, .val (.long q2), .second, .val (.long q3), .second, .val (.int (p0 &&& (3 : Int32))), .val (.ref b154), .val (.ref b_163), .val (.long ((((0 : Int64) + q1) + q2) + q3)), .second, .val (.long ((((((0 : Int64) + q1) + q2) + q3) / ((p0 &&& (3 : Int32)).toInt64)) / (1000000 : Int64))), .second] [])) _
    refine XS.iconst X169.here hx rfl (hb hby at_172) ?_
    show Steps p.tables e below (T169.setTop (mkF m 173 #[.val (.int p0), .val (.long q1), .second, .val (.long q2), .second, .val (.long q3), .second, .val (.int (p0 &&& (3 : Int32))), .val (.ref b154), .val (.ref b_163), .val (.long ((((0 : Int64) + q1) + q2) + q3)), .second, .val (.long ((((((0 : Int64) + q1) + q2) + q3) / ((p0 &&& (3 : Int32)).toInt64)) / (1000000 : Int64))), .second] [(.int (1 : Int32))])) _
    refine XS.goto X169.here hx rfl (pc0 := 173) (pc' := 177) rfl (hb hby at_173) (by decide) (by decide) ?_
    show Steps p.tables e below (T169.setTop (mkF m 177 #[.val (.int p0), .val (.long q1), .second, .val (.long q2), .second, .val (.long q3), .second, .val (.int (p0 &&& (3 : Int32))), .val (.ref b154), .val (.ref b_163), .val (.long ((((0 : Int64) + q1) + q2) + q3)), .second, .val (.long ((((((0 : Int64) + q1) + q2) + q3) / ((p0 &&& (3 : Int32)).toInt64)) / (1000000 : Int64))), .second] [(.int (1 : Int32))])) _
    exact retN X169 hx (t := .boolean) Bd.returns (by simp) (hb hby at_177) hr
  · show Q0 Z ns p0 q1 q2 q3 h0 n0 _ T169.heap _
    rw [eq169]
    exact ⟨rfl, N169, K0_164⟩
set_option maxRecDepth 65536 in
theorem rm0 (l : Launch) (Z : State) (a0 : Array Value) (ns : Addr) (hG : Glob Z a0 ns) (ws : List Jvm.Cond) (p0 : Int32) (q1 : Int64) (q2 : Int64) (q3 : Int64) (h0 : Heap) (n0 : Nat) (Z0 : n0 ≤ h0.size) (X00 : Old Z n0 h0) :
    MetFree l x (head1 (Jvm.Cond.code x code maxLocals ret :: ws) room_1) (fun a U => a = #[(.int p0), (.long q1), (.long q2), (.long q3)] ∧ Z.Warmed39 U.vm ∧ U.heap = h0) (fun _ _ _ _ _ => True) (fun _ U o U' => ∃ v L, o = .returned v ∧ Q0 Z ns p0 q1 q2 q3 h0 n0 v U'.heap L ∧ FrameEnd U o U' L room_1.cells room_1.slots) := by
  rcases own_and3 p0 with h | h | h | h
  · exact rm0_n0 l Z a0 ns hG ws p0 q1 q2 q3 h0 n0 Z0 X00 h
  · exact rm0_n1 l Z a0 ns hG ws p0 q1 q2 q3 h0 n0 Z0 X00 h
  · exact rm0_n2 l Z a0 ns hG ws p0 q1 q2 q3 h0 n0 Z0 X00 h
  · exact rm0_n3 l Z a0 ns hG ws p0 q1 q2 q3 h0 n0 Z0 X00 h
theorem own_fldJ {args : Array Value} {s : State} {t : Term} {a : Addr} {C n d : String} {k : Int64} (ev : t.eval args s none [] s = some (.ref a)) (h : (Jvm.Cond.eq (Term.field t C n d) (Term.long k)).value args s none s [] = some true) : Fld s s.heap a C n d (.long k) := by
  apply Fld.start
  have e2 : (Term.long k).eval args s none [] s = some (.long k) := rfl
  cases hf : s.fieldOf? a C n d with
  | none => simp [Cond.value, Term.eval, ev, hf] at h
  | some v => cases v <;> first | (simp [Cond.value, Term.eval, ev, hf] at h; done) | (simp [Cond.value, Term.eval, ev, hf] at h; subst h; rfl)
theorem own_fldI {args : Array Value} {s : State} {t : Term} {a : Addr} {C n d : String} {k : Int32} (ev : t.eval args s none [] s = some (.ref a)) (h : (Jvm.Cond.eq (Term.field t C n d) (Term.int k)).value args s none s [] = some true) : Fld s s.heap a C n d (.int k) := by
  apply Fld.start
  cases hf : s.fieldOf? a C n d with
  | none => simp [Cond.value, Term.eval, ev, hf] at h
  | some v => cases v <;> first | (simp [Cond.value, Term.eval, ev, hf] at h; done) | (simp [Cond.value, Term.eval, ev, hf] at h; subst h; rfl)
set_option maxRecDepth 65536 in
set_option maxHeartbeats 40000000 in
theorem comes_1 {Post : Tables → Env → Array Value → State → Outcome → State → Prop} (hpost : ∀ tb e args s v u, (limb_1_1.after args s (.returned v) u = true ∧ limb_1_2.after args s (.returned v) u = true ∧ True) → FrameEnd s (.returned v) u (Jvm.fieldLocs frame_1_writes args s ++ Jvm.arrayLocs frame_1_arrays args s ++ Jvm.staticLocs frame_1_statics s) 16 128 → Post tb e args s (.returned v) u) :
    ArmFor flags0 classFile x code maxLocals ret World_1 tables_1 room_1 Calls_1 rest_1 Pre_1 Post := by
  intro l hfl _ _ p e ha hc hk s m args below hf hA hF happ hP
  obtain ⟨hcalls, hrest, hpre⟩ := hP
  obtain ⟨-, -, -, hnamed, -, -, -, hat⟩ := (Spec.applies_iff hf).mp happ
  obtain ⟨hg, hn⟩ := and_e (Cond.before_iff.mp (show (Jvm.Cond.and given_1 narrow_1).before args s = true from hpre))
  obtain ⟨gc, gr0⟩ := and_e hg
  obtain ⟨ga0, gr1⟩ := and_e gr0
  obtain ⟨ga1, gr2⟩ := and_e gr1
  obtain ⟨ga2, gr3⟩ := and_e gr2
  obtain ⟨w0, w1, w2, w3, rfl⟩ : ∃ w0 w1 w2 w3 : Value, args = #[w0, w1, w2, w3] := by
    have hs : args.size = 4 := by simpa [Cond.value, given_1] using gc
    obtain ⟨L⟩ := args
    match L, hs with
    | [w0, w1, w2, w3], _ => exact ⟨w0, w1, w2, w3, rfl⟩
  have hw := fun d (hd : d ∈ tables_1) => atoms_spec (ws := Jvm.Cond.code x code maxLocals ret :: tables_1) hat d (List.mem_cons_of_mem _ hd)
  have hfit : Fit s := fun {y c} hc i hi => by
    obtain ⟨ha, rfl⟩ := Array.getElem?_eq_some_iff.mp hc
    have q := List.all_eq_true.mp ((Array.all_eq_true_iff_forall_mem.mp hF) _ (Array.getElem_mem ha)) i (List.mem_range.mpr hi)
    simpa [Array.getElem?_eq_getElem hi] using q
  obtain ⟨hsets, hown0⟩ := atoms_of _ (rest_1_c_eq ▸ (show rest_1_c.before _ s = true from hrest))
  obtain ⟨i0, ei0⟩ := is_v ga0
  obtain rfl : w0 = (.int i0) := Option.some.inj ei0
  obtain ⟨i1, ei1⟩ := isL_v ga1
  obtain rfl : w1 = (.long i1) := Option.some.inj ei1
  obtain ⟨i2, ei2⟩ := isL_v ga2
  obtain rfl : w2 = (.long i2) := Option.some.inj ei2
  obtain ⟨i3, ei3⟩ := isL_v gr3
  obtain rfl : w3 = (.long i3) := Option.some.inj ei3
  have W : ∀ (i : Nat) {d : Jvm.Cond}, tables_1[i]? = some d → d.before _ s = true := fun i d h => hw d (List.mem_of_getElem? h)
  obtain ⟨ns, cN, cellN, kN, eN, -⟩ := Cond.exactly_spec (hsets _ (List.mem_of_getElem? (i := 2) rfl))
  have SN : Sta s s.heap "java/util/concurrent/TimeUnit" "NANOSECONDS" "Ljava/util/concurrent/TimeUnit;" (.ref ns) := Sta.start eN (Or.inl (hsets _ (List.mem_of_getElem? (i := 1) rfl)))
  have EN : Exa s s.heap ns "java/util/concurrent/TimeUnit" := Exa.start eN (Cond.before_iff.mp (hsets _ (List.mem_of_getElem? (i := 2) rfl)))
  have F1 : Fld s s.heap ns "java/util/concurrent/TimeUnit" "scale" "J" (.long (1 : Int64)) := own_fldJ eN (Cond.before_iff.mp (hsets _ (List.mem_of_getElem? (i := 5) rfl)))
  have F2 : Fld s s.heap ns "java/util/concurrent/TimeUnit" "milliRatio" "I" (.int (1000000 : Int32)) := own_fldI eN (Cond.before_iff.mp (hsets _ (List.mem_of_getElem? (i := 9) rfl)))
  have hG : Glob s _ ns := ⟨hw, SN, EN, F1, F2⟩
  obtain ⟨n, o, h1, h2, h3, _, L, rfl, ⟨rfl, N, -⟩, hq⟩ := rm0 l s _ ns hG tables_1 i0 i1 i2 i3 s.heap s.heap.size (Nat.le_refl _) (Old.start s) p e ha hc hk s m _ below hf ((Spec.applies_iff_loose hf).mp happ).1 ⟨rfl, State.Warmed39.refl s, rfl⟩ trivial
  refine ⟨n, _, h1, h2, h3, hpost _ _ _ _ _ _ ⟨Cond.after_iff.mpr rfl, Cond.after_iff.mpr (eq_i res_at (Term.int_eval (1)) rfl), trivial⟩ ⟨hq.1, hq.2.1, (hq.2.2.sift fun y hy => Or.inr (N y hy)).mono (by decide) (by decide)⟩⟩
theorem main_1_1 : Claimed_1_1 := comes_1 fun _ _ _ _ _ _ h hF => ⟨h.1, hF⟩
theorem main_1_2 : Claimed_1_2 := comes_1 fun _ _ _ _ _ _ h hF => ⟨h.2.1, hF⟩
end Jvm.Pilot.@@N@@
namespace Jvm.Pilot.@@N@@
open Jvm Jvm.ClassFile Sem Op Lib Jvm.Free Jvm.Stand Jvm.Pilot.@@N@@.Jvm.D
/-! MADE BY PROGRAM (witnessworld.py) out of the Statement's table words and the real class files: 14 classes; the members and pool entries that the words name. The judged class is class 1, her method 1. -/
namespace start1
open Jvm.ClassFile
def u (s : String) : CpInfo := .utf8 (stringToUtf16 s)
/-- a pool by its gaps: so many unusable entries, then the entry; so many at the end -/
def gap : Nat → List CpInfo → List CpInfo
  | 0, r => r
  | n + 1, r => .unusable :: gap n r
def poolList (es : List (Nat × CpInfo)) (last : Nat) : List CpInfo := es.foldr (fun e r => gap e.1 (e.2 :: r)) (gap last [])
def pool (es : List (Nat × CpInfo)) (last : Nat) : Array CpInfo := ⟨poolList es last⟩
def fileOf (pool : Array CpInfo) (this : Nat) (attrs : Array Attribute := #[]) (ms : Array MethodInfo := #[]) (fl : Nat := 33) (sup : Nat := 0) (ifs : Array Nat := #[]) (fds : Array FieldInfo := #[]) : ClassFile where
  minorVersion := 0
  majorVersion := 65
  constantPool := pool
  accessFlags := fl
  thisClass := this
  superClass := sup
  interfaces := ifs
  fields := fds
  methods := ms
  attributes := attrs
def plain (name : String) (sup : Option ClassId) : Class where
  name := name
  kind := .ordinary
  loader := none
  accessFlags := 33
  super := sup
  interfaces := #[]
  cf := none
  fields := #[]
  methods := #[]
  instanceTypes := #[]
  staticTypes := #[]
  resolved := #[]
  callSites := []
  init := .initialized
  statics := none
  mirror := none

def pool0 : Array CpInfo := pool [(5, u "<init>"), (0, u "()V"), (1, .class_ 10), (1, u "java/lang/Object")] 113

def k0c0 : Code := { maxStack := 0, maxLocals := 1, code := object_method_1_code, exceptionTable := #[], attributes := #[] }
def k0m0 : Method := { name := "<init>", desc := "()V", sig := { parameters := [], returnType := none }, accessFlags := 1, code := some k0c0 }
/-- java/lang/Object -/
def k0 : Class := { plain "java/lang/Object" none with
  accessFlags := 33
  interfaces := #[]
  cf := some (fileOf pool0 8 #[] #[{ accessFlags := 1, nameIndex := 5, descriptorIndex := 6, attributes := #[] }] 33 0 #[] #[])
  fields := #[]
  methods := #[k0m0]
  instanceTypes := #[]
  staticTypes := #[]
  resolved := Array.replicate 124 none
  statics := none }

def pool1 : Array CpInfo := pool [(2, .class_ 4), (0, .nameAndType 5 6), (0, u "java/lang/Object"), (0, u "<init>"), (0, u "()V"), (0, .class_ 8), (0, u "com/example/cistern/cistern/PoolState$Counters"), (0, .methodref 7 3), (0, .methodref 7 11), (0, .nameAndType 12 13), (0, u "checkedIn"), (0, u "(J)V"), (0, .methodref 7 15), (0, .nameAndType 16 17), (0, u "snapshot"), (0, u "(III)Lcom/example/cistern/cistern/PoolState;"), (0, .long 1000000), (1, .methodref 21 22), (0, .class_ 23), (0, .nameAndType 24 25), (0, u "com/example/cistern/cistern/PoolState"), (0, u "getAverageCheckoutTime"), (0, u "()J"), (0, .methodref 21 27), (0, .nameAndType 28 25), (0, u "getClaimedOverdueConnectionCount"), (0, .methodref 21 30), (0, .nameAndType 31 25), (0, u "getRequestCount"), (0, .methodref 21 33), (0, .nameAndType 34 25), (0, u "getHadToWaitCount"), (0, .methodref 21 36), (0, .nameAndType 37 25), (0, u "getConnectionsOpened"), (0, .class_ 39), (0, u "com/example/cistern/cistern/CountersCheckedInPinLaw"), (2, u "law"), (0, u "(IJJJ)Z")] 5

def k1m0 : Method := { name := "<init>", desc := "()V", sig := { parameters := [], returnType := none }, accessFlags := 1, code := none }
def k1c1 : Code := { maxStack := 4, maxLocals := 14, code := code, exceptionTable := #[], attributes := #[] }
def k1m1 : Method := { name := "law", desc := "(IJJJ)Z", sig := { parameters := [.int, .long, .long, .long], returnType := some .boolean }, accessFlags := 9, code := some k1c1 }
/-- com/example/cistern/cistern/CountersCheckedInPinLaw -/
def k1 : Class := { plain "com/example/cistern/cistern/CountersCheckedInPinLaw" (some 0) with
  accessFlags := 49
  interfaces := #[]
  cf := some (fileOf pool1 38 #[] #[{ accessFlags := 1, nameIndex := 5, descriptorIndex := 6, attributes := #[] }, { accessFlags := 9, nameIndex := 42, descriptorIndex := 43, attributes := #[] }] 49 2 #[] #[])
  fields := #[]
  methods := #[k1m0, k1m1]
  instanceTypes := #[]
  staticTypes := #[]
  resolved := Array.replicate 49 none
  statics := none }

def pool2 : Array CpInfo := pool [(1, .methodref 2 3), (0, .class_ 4), (0, .nameAndType 5 6), (0, u "java/lang/Object"), (0, u "<init>"), (0, u "()V"), (1, .class_ 10), (1, u "com/example/cistern/cistern/PoolState$Counters"), (0, u "requestCount"), (0, u "J"), (2, u "requestNanos"), (2, u "hadToWaitCount"), (2, u "waitNanos"), (2, u "badConnectionCount"), (2, u "connectionsOpened"), (0, .fieldref 8 29), (0, .nameAndType 30 12), (0, u "checkoutCount"), (0, .fieldref 8 32), (0, .nameAndType 33 12), (0, u "checkoutNanos"), (2, u "claimedOverdueCount"), (2, u "overdueCheckoutNanos"), (2, u "checkedIn"), (0, u "(J)V"), (0, .class_ 45), (0, u "com/example/cistern/cistern/PoolState"), (0, .methodref 44 47), (0, .nameAndType 5 48), (0, u "(Lcom/example/cistern/cistern/PoolState$Counters;III)V"), (9, u "snapshot"), (0, u "(III)Lcom/example/cistern/cistern/PoolState;")] 5

def k2c0 : Code := { maxStack := 1, maxLocals := 1, code := prog_17_method_1_code, exceptionTable := #[], attributes := #[] }
def k2m0 : Method := { name := "<init>", desc := "()V", sig := { parameters := [], returnType := none }, accessFlags := 0, code := some k2c0 }
def k2c1 : Code := { maxStack := 5, maxLocals := 3, code := prog_17_method_6_code, exceptionTable := #[], attributes := #[] }
def k2m1 : Method := { name := "checkedIn", desc := "(J)V", sig := { parameters := [.long], returnType := none }, accessFlags := 0, code := some k2c1 }
def k2c2 : Code := { maxStack := 6, maxLocals := 4, code := prog_17_method_9_code, exceptionTable := #[], attributes := #[] }
def k2m2 : Method := { name := "snapshot", desc := "(III)Lcom/example/cistern/cistern/PoolState;", sig := { parameters := [.int, .int, .int], returnType := some (.object "com/example/cistern/cistern/PoolState") }, accessFlags := 0, code := some k2c2 }
/-- com/example/cistern/cistern/PoolState$Counters -/
def k2 : Class := { plain "com/example/cistern/cistern/PoolState$Counters" (some 0) with
  accessFlags := 48
  interfaces := #[]
  cf := some (fileOf pool2 8 #[.nestHost 44] #[{ accessFlags := 0, nameIndex := 5, descriptorIndex := 6, attributes := #[] }, { accessFlags := 0, nameIndex := 42, descriptorIndex := 43, attributes := #[] }, { accessFlags := 0, nameIndex := 58, descriptorIndex := 59, attributes := #[] }] 48 2 #[] #[{ accessFlags := 2, nameIndex := 11, descriptorIndex := 12, attributes := #[] }, { accessFlags := 2, nameIndex := 15, descriptorIndex := 12, attributes := #[] }, { accessFlags := 2, nameIndex := 18, descriptorIndex := 12, attributes := #[] }, { accessFlags := 2, nameIndex := 21, descriptorIndex := 12, attributes := #[] }, { accessFlags := 2, nameIndex := 24, descriptorIndex := 12, attributes := #[] }, { accessFlags := 2, nameIndex := 36, descriptorIndex := 12, attributes := #[] }, { accessFlags := 2, nameIndex := 39, descriptorIndex := 12, attributes := #[] }, { accessFlags := 2, nameIndex := 30, descriptorIndex := 12, attributes := #[] }, { accessFlags := 2, nameIndex := 33, descriptorIndex := 12, attributes := #[] }, { accessFlags := 2, nameIndex := 27, descriptorIndex := 12, attributes := #[] }])
  fields := #[{ name := "requestCount", type := .long, accessFlags := 2, slot := 0, constantValue := 0 }, { name := "requestNanos", type := .long, accessFlags := 2, slot := 1, constantValue := 0 }, { name := "hadToWaitCount", type := .long, accessFlags := 2, slot := 2, constantValue := 0 }, { name := "waitNanos", type := .long, accessFlags := 2, slot := 3, constantValue := 0 }, { name := "badConnectionCount", type := .long, accessFlags := 2, slot := 4, constantValue := 0 }, { name := "claimedOverdueCount", type := .long, accessFlags := 2, slot := 5, constantValue := 0 }, { name := "overdueCheckoutNanos", type := .long, accessFlags := 2, slot := 6, constantValue := 0 }, { name := "checkoutCount", type := .long, accessFlags := 2, slot := 7, constantValue := 0 }, { name := "checkoutNanos", type := .long, accessFlags := 2, slot := 8, constantValue := 0 }, { name := "connectionsOpened", type := .long, accessFlags := 2, slot := 9, constantValue := 0 }]
  methods := #[k2m0, k2m1, k2m2]
  instanceTypes := #[.long, .long, .long, .long, .long, .long, .long, .long, .long, .long]
  staticTypes := #[]
  resolved := Array.replicate 65 none
  statics := none }

def pool3 : Array CpInfo := pool [(1, .methodref 2 3), (0, .class_ 4), (0, .nameAndType 5 6), (0, u "java/lang/Object"), (0, u "<init>"), (0, u "()V"), (0, .fieldref 8 9), (0, .class_ 10), (0, .nameAndType 11 12), (0, u "com/example/cistern/cistern/PoolState$Counters"), (0, u "requestCount"), (0, u "J"), (0, .fieldref 14 9), (0, .class_ 15), (0, u "com/example/cistern/cistern/PoolState"), (0, .fieldref 8 17), (0, .nameAndType 18 12), (0, u "requestNanos"), (0, .methodref 14 20), (0, .nameAndType 21 22), (0, u "averageMillis"), (0, u "(JJ)J"), (0, .fieldref 14 24), (0, .nameAndType 25 12), (0, u "averageRequestTime"), (0, .fieldref 8 27), (0, .nameAndType 28 12), (0, u "hadToWaitCount"), (0, .fieldref 14 27), (0, .fieldref 8 31), (0, .nameAndType 32 12), (0, u "waitNanos"), (0, .fieldref 14 34), (0, .nameAndType 35 12), (0, u "averageWaitTime"), (0, .fieldref 8 37), (0, .nameAndType 38 12), (0, u "badConnectionCount"), (0, .fieldref 14 37), (0, .fieldref 8 41), (0, .nameAndType 42 12), (0, u "claimedOverdueCount"), (0, .fieldref 14 44), (0, .nameAndType 45 12), (0, u "claimedOverdueConnectionCount"), (0, .fieldref 8 47), (0, .nameAndType 48 12), (0, u "overdueCheckoutNanos"), (0, .fieldref 14 50), (0, .nameAndType 51 12), (0, u "averageOverdueCheckoutTime"), (0, .fieldref 8 53), (0, .nameAndType 54 12), (0, u "checkoutNanos"), (0, .fieldref 8 56), (0, .nameAndType 57 12), (0, u "checkoutCount"), (0, .fieldref 14 59), (0, .nameAndType 60 12), (0, u "averageCheckoutTime"), (0, .fieldref 14 62), (0, .nameAndType 63 64), (0, u "idleConnectionCount"), (0, u "I"), (0, .fieldref 14 66), (0, .nameAndType 67 64), (0, u "activeConnectionCount"), (0, .fieldref 14 69), (0, .nameAndType 70 64), (0, u "waitingCount"), (0, .fieldref 8 72), (0, .nameAndType 73 12), (0, u "connectionsOpened"), (0, .fieldref 14 72), (0, .fieldref 76 77), (0, .class_ 78), (0, .nameAndType 79 80), (0, u "java/util/concurrent/TimeUnit"), (0, u "NANOSECONDS"), (0, u "Ljava/util/concurrent/TimeUnit;"), (0, .methodref 76 82), (0, .nameAndType 83 84), (0, u "toMillis"), (0, u "(J)J"), (4, u "(Lcom/example/cistern/cistern/PoolState$Counters;III)V"), (3, u "getRequestCount"), (0, u "()J"), (1, u "getHadToWaitCount"), (2, u "getClaimedOverdueConnectionCount"), (1, u "getAverageCheckoutTime"), (4, u "getConnectionsOpened")] 21

def k3c0 : Code := { maxStack := 5, maxLocals := 5, code := prog_16_method_1_code, exceptionTable := #[], attributes := #[] }
def k3m0 : Method := { name := "<init>", desc := "(Lcom/example/cistern/cistern/PoolState$Counters;III)V", sig := { parameters := [(.object "com/example/cistern/cistern/PoolState$Counters"), .int, .int, .int], returnType := none }, accessFlags := 2, code := some k3c0 }
def k3c1 : Code := { maxStack := 5, maxLocals := 4, code := prog_16_method_2_code, exceptionTable := #[], attributes := #[] }
def k3m1 : Method := { name := "averageMillis", desc := "(JJ)J", sig := { parameters := [.long, .long], returnType := some .long }, accessFlags := 10, code := some k3c1 }
def k3c2 : Code := { maxStack := 2, maxLocals := 1, code := prog_16_method_3_code, exceptionTable := #[], attributes := #[] }
def k3m2 : Method := { name := "getRequestCount", desc := "()J", sig := { parameters := [], returnType := some .long }, accessFlags := 1, code := some k3c2 }
def k3c3 : Code := { maxStack := 2, maxLocals := 1, code := prog_16_method_5_code, exceptionTable := #[], attributes := #[] }
def k3m3 : Method := { name := "getHadToWaitCount", desc := "()J", sig := { parameters := [], returnType := some .long }, accessFlags := 1, code := some k3c3 }
def k3c4 : Code := { maxStack := 2, maxLocals := 1, code := prog_16_method_8_code, exceptionTable := #[], attributes := #[] }
def k3m4 : Method := { name := "getClaimedOverdueConnectionCount", desc := "()J", sig := { parameters := [], returnType := some .long }, accessFlags := 1, code := some k3c4 }
def k3c5 : Code := { maxStack := 2, maxLocals := 1, code := prog_16_method_10_code, exceptionTable := #[], attributes := #[] }
def k3m5 : Method := { name := "getAverageCheckoutTime", desc := "()J", sig := { parameters := [], returnType := some .long }, accessFlags := 1, code := some k3c5 }
def k3c6 : Code := { maxStack := 2, maxLocals := 1, code := prog_16_method_14_code, exceptionTable := #[], attributes := #[] }
def k3m6 : Method := { name := "getConnectionsOpened", desc := "()J", sig := { parameters := [], returnType := some .long }, accessFlags := 1, code := some k3c6 }
/-- com/example/cistern/cistern/PoolState -/
def k3 : Class := { plain "com/example/cistern/cistern/PoolState" (some 0) with
  accessFlags := 49
  interfaces := #[]
  cf := some (fileOf pool3 14 #[.nestMembers #[8]] #[{ accessFlags := 2, nameIndex := 5, descriptorIndex := 89, attributes := #[] }, { accessFlags := 10, nameIndex := 21, descriptorIndex := 22, attributes := #[] }, { accessFlags := 1, nameIndex := 93, descriptorIndex := 94, attributes := #[] }, { accessFlags := 1, nameIndex := 96, descriptorIndex := 94, attributes := #[] }, { accessFlags := 1, nameIndex := 99, descriptorIndex := 94, attributes := #[] }, { accessFlags := 1, nameIndex := 101, descriptorIndex := 94, attributes := #[] }, { accessFlags := 1, nameIndex := 106, descriptorIndex := 94, attributes := #[] }] 49 2 #[] #[{ accessFlags := 18, nameIndex := 11, descriptorIndex := 12, attributes := #[] }, { accessFlags := 18, nameIndex := 25, descriptorIndex := 12, attributes := #[] }, { accessFlags := 18, nameIndex := 28, descriptorIndex := 12, attributes := #[] }, { accessFlags := 18, nameIndex := 35, descriptorIndex := 12, attributes := #[] }, { accessFlags := 18, nameIndex := 38, descriptorIndex := 12, attributes := #[] }, { accessFlags := 18, nameIndex := 45, descriptorIndex := 12, attributes := #[] }, { accessFlags := 18, nameIndex := 51, descriptorIndex := 12, attributes := #[] }, { accessFlags := 18, nameIndex := 60, descriptorIndex := 12, attributes := #[] }, { accessFlags := 18, nameIndex := 63, descriptorIndex := 64, attributes := #[] }, { accessFlags := 18, nameIndex := 67, descriptorIndex := 64, attributes := #[] }, { accessFlags := 18, nameIndex := 70, descriptorIndex := 64, attributes := #[] }, { accessFlags := 18, nameIndex := 73, descriptorIndex := 12, attributes := #[] }])
  fields := #[{ name := "requestCount", type := .long, accessFlags := 18, slot := 0, constantValue := 0 }, { name := "averageRequestTime", type := .long, accessFlags := 18, slot := 1, constantValue := 0 }, { name := "hadToWaitCount", type := .long, accessFlags := 18, slot := 2, constantValue := 0 }, { name := "averageWaitTime", type := .long, accessFlags := 18, slot := 3, constantValue := 0 }, { name := "badConnectionCount", type := .long, accessFlags := 18, slot := 4, constantValue := 0 }, { name := "claimedOverdueConnectionCount", type := .long, accessFlags := 18, slot := 5, constantValue := 0 }, { name := "averageOverdueCheckoutTime", type := .long, accessFlags := 18, slot := 6, constantValue := 0 }, { name := "averageCheckoutTime", type := .long, accessFlags := 18, slot := 7, constantValue := 0 }, { name := "idleConnectionCount", type := .int, accessFlags := 18, slot := 8, constantValue := 0 }, { name := "activeConnectionCount", type := .int, accessFlags := 18, slot := 9, constantValue := 0 }, { name := "waitingCount", type := .int, accessFlags := 18, slot := 10, constantValue := 0 }, { name := "connectionsOpened", type := .long, accessFlags := 18, slot := 11, constantValue := 0 }]
  methods := #[k3m0, k3m1, k3m2, k3m3, k3m4, k3m5, k3m6]
  instanceTypes := #[.long, .long, .long, .long, .long, .long, .long, .long, .int, .int, .int, .long]
  staticTypes := #[]
  resolved := (((((((((((Array.replicate 128 none).setIfInBounds 7 (some (.field 2 0))).setIfInBounds 16 (some (.field 2 1))).setIfInBounds 26 (some (.field 2 2))).setIfInBounds 30 (some (.field 2 3))).setIfInBounds 36 (some (.field 2 4))).setIfInBounds 40 (some (.field 2 5))).setIfInBounds 46 (some (.field 2 6))).setIfInBounds 52 (some (.field 2 8))).setIfInBounds 55 (some (.field 2 7))).setIfInBounds 71 (some (.field 2 9)))
  statics := none }

def pool4 : Array CpInfo := pool [(1, .class_ 2), (0, u "java/lang/constant/Constable"), (0, .class_ 4), (0, u "java/lang/Object")] 6

/-- java/lang/constant/Constable -/
def k4 : Class := { plain "java/lang/constant/Constable" (some 0) with
  accessFlags := 1537
  interfaces := #[]
  cf := some (fileOf pool4 1 #[] #[] 1537 3 #[] #[])
  fields := #[]
  methods := #[]
  instanceTypes := #[]
  staticTypes := #[]
  resolved := Array.replicate 11 none
  statics := none }

def pool5 : Array CpInfo := pool [(1, .class_ 2), (0, u "java/lang/Comparable"), (0, .class_ 4), (0, u "java/lang/Object")] 7

/-- java/lang/Comparable -/
def k5 : Class := { plain "java/lang/Comparable" (some 0) with
  accessFlags := 1537
  interfaces := #[]
  cf := some (fileOf pool5 1 #[] #[] 1537 3 #[] #[])
  fields := #[]
  methods := #[]
  instanceTypes := #[]
  staticTypes := #[]
  resolved := Array.replicate 12 none
  statics := none }

def pool6 : Array CpInfo := pool [(1, .class_ 2), (0, u "java/io/Serializable"), (0, .class_ 4), (0, u "java/lang/Object")] 2

/-- java/io/Serializable -/
def k6 : Class := { plain "java/io/Serializable" (some 0) with
  accessFlags := 1537
  interfaces := #[]
  cf := some (fileOf pool6 1 #[] #[] 1537 3 #[] #[])
  fields := #[]
  methods := #[]
  instanceTypes := #[]
  staticTypes := #[]
  resolved := Array.replicate 7 none
  statics := none }

def pool7 : Array CpInfo := pool [(2, .class_ 4), (1, u "java/lang/Enum"), (0, u "name"), (0, u "Ljava/lang/String;"), (2, u "ordinal"), (0, u "I"), (1, .class_ 14), (1, u "java/lang/Object"), (4, u "hash"), (86, .class_ 108), (1, u "java/lang/Enum$EnumDesc"), (2, .class_ 112), (0, u "java/lang/constant/Constable"), (0, .class_ 114), (0, u "java/lang/Comparable"), (0, .class_ 116), (0, u "java/io/Serializable")] 87

/-- java/lang/Enum -/
def k7 : Class := { plain "java/lang/Enum" (some 0) with
  accessFlags := 1057
  interfaces := #[4, 5, 6]
  cf := some (fileOf pool7 2 #[.nestMembers #[106]] #[] 1057 12 #[111, 113, 115] #[{ accessFlags := 18, nameIndex := 5, descriptorIndex := 6, attributes := #[] }, { accessFlags := 18, nameIndex := 9, descriptorIndex := 10, attributes := #[] }, { accessFlags := 2, nameIndex := 19, descriptorIndex := 10, attributes := #[] }])
  fields := #[{ name := "name", type := (.object "java/lang/String"), accessFlags := 18, slot := 0, constantValue := 0 }, { name := "ordinal", type := .int, accessFlags := 18, slot := 1, constantValue := 0 }, { name := "hash", type := .int, accessFlags := 2, slot := 2, constantValue := 0 }]
  methods := #[]
  instanceTypes := #[(.object "java/lang/String"), .int, .int]
  staticTypes := #[]
  resolved := Array.replicate 204 none
  statics := none }

def pool8 : Array CpInfo := pool [(1, .class_ 2), (0, u "java/util/concurrent/TimeUnit"), (2, u "NANOSECONDS"), (0, u "Ljava/util/concurrent/TimeUnit;"), (2, u "MICROSECONDS"), (2, u "MILLISECONDS"), (2, u "SECONDS"), (2, u "MINUTES"), (2, u "HOURS"), (2, u "DAYS"), (2, u "$VALUES"), (0, u "[Ljava/util/concurrent/TimeUnit;"), (6, .class_ 37), (1, u "java/lang/Enum"), (6, .fieldref 1 45), (0, .nameAndType 46 47), (0, u "scale"), (0, u "J"), (6, u "maxNanos"), (4, u "microRatio"), (2, u "maxMicros"), (0, .long 1000000), (1, .fieldref 1 66), (0, .nameAndType 67 68), (0, u "milliRatio"), (0, u "I"), (2, u "maxMillis"), (4, u "secRatio"), (2, u "maxSecs"), (9, u "(J)J"), (5, u "toMillis"), (67, .class_ 165), (1, u "java/util/concurrent/TimeUnit$1"), (46, u "NANO_SCALE"), (3, u "MICRO_SCALE"), (0, u "MILLI_SCALE"), (0, u "SECOND_SCALE"), (0, u "MINUTE_SCALE"), (0, u "HOUR_SCALE"), (0, u "DAY_SCALE")] 61

def k8c0 : Code := { maxStack := 6, maxLocals := 7, code := jdk_2799_method_9_code, exceptionTable := #[], attributes := #[] }
def k8m0 : Method := { name := "toMillis", desc := "(J)J", sig := { parameters := [.long], returnType := some .long }, accessFlags := 1, code := some k8c0 }
/-- java/util/concurrent/TimeUnit -/
def k8 : Class := { plain "java/util/concurrent/TimeUnit" (some 7) with
  accessFlags := 16433
  interfaces := #[]
  cf := some (fileOf pool8 1 #[.nestMembers #[163]] #[{ accessFlags := 1, nameIndex := 95, descriptorIndex := 89, attributes := #[] }] 16433 35 #[] #[{ accessFlags := 16409, nameIndex := 5, descriptorIndex := 6, attributes := #[] }, { accessFlags := 16409, nameIndex := 9, descriptorIndex := 6, attributes := #[] }, { accessFlags := 16409, nameIndex := 12, descriptorIndex := 6, attributes := #[] }, { accessFlags := 16409, nameIndex := 15, descriptorIndex := 6, attributes := #[] }, { accessFlags := 16409, nameIndex := 18, descriptorIndex := 6, attributes := #[] }, { accessFlags := 16409, nameIndex := 21, descriptorIndex := 6, attributes := #[] }, { accessFlags := 16409, nameIndex := 24, descriptorIndex := 6, attributes := #[] }, { accessFlags := 26, nameIndex := 212, descriptorIndex := 47, attributes := #[] }, { accessFlags := 26, nameIndex := 216, descriptorIndex := 47, attributes := #[] }, { accessFlags := 26, nameIndex := 217, descriptorIndex := 47, attributes := #[] }, { accessFlags := 26, nameIndex := 218, descriptorIndex := 47, attributes := #[] }, { accessFlags := 26, nameIndex := 219, descriptorIndex := 47, attributes := #[] }, { accessFlags := 26, nameIndex := 220, descriptorIndex := 47, attributes := #[] }, { accessFlags := 26, nameIndex := 221, descriptorIndex := 47, attributes := #[] }, { accessFlags := 18, nameIndex := 46, descriptorIndex := 47, attributes := #[] }, { accessFlags := 18, nameIndex := 54, descriptorIndex := 47, attributes := #[] }, { accessFlags := 18, nameIndex := 62, descriptorIndex := 47, attributes := #[] }, { accessFlags := 18, nameIndex := 71, descriptorIndex := 47, attributes := #[] }, { accessFlags := 18, nameIndex := 79, descriptorIndex := 47, attributes := #[] }, { accessFlags := 18, nameIndex := 59, descriptorIndex := 47, attributes := #[] }, { accessFlags := 18, nameIndex := 67, descriptorIndex := 68, attributes := #[] }, { accessFlags := 18, nameIndex := 76, descriptorIndex := 68, attributes := #[] }, { accessFlags := 4122, nameIndex := 27, descriptorIndex := 28, attributes := #[] }])
  fields := #[{ name := "NANOSECONDS", type := (.object "java/util/concurrent/TimeUnit"), accessFlags := 16409, slot := 0, constantValue := 0 }, { name := "MICROSECONDS", type := (.object "java/util/concurrent/TimeUnit"), accessFlags := 16409, slot := 1, constantValue := 0 }, { name := "MILLISECONDS", type := (.object "java/util/concurrent/TimeUnit"), accessFlags := 16409, slot := 2, constantValue := 0 }, { name := "SECONDS", type := (.object "java/util/concurrent/TimeUnit"), accessFlags := 16409, slot := 3, constantValue := 0 }, { name := "MINUTES", type := (.object "java/util/concurrent/TimeUnit"), accessFlags := 16409, slot := 4, constantValue := 0 }, { name := "HOURS", type := (.object "java/util/concurrent/TimeUnit"), accessFlags := 16409, slot := 5, constantValue := 0 }, { name := "DAYS", type := (.object "java/util/concurrent/TimeUnit"), accessFlags := 16409, slot := 6, constantValue := 0 }, { name := "NANO_SCALE", type := .long, accessFlags := 26, slot := 7, constantValue := 0 }, { name := "MICRO_SCALE", type := .long, accessFlags := 26, slot := 8, constantValue := 0 }, { name := "MILLI_SCALE", type := .long, accessFlags := 26, slot := 9, constantValue := 0 }, { name := "SECOND_SCALE", type := .long, accessFlags := 26, slot := 10, constantValue := 0 }, { name := "MINUTE_SCALE", type := .long, accessFlags := 26, slot := 11, constantValue := 0 }, { name := "HOUR_SCALE", type := .long, accessFlags := 26, slot := 12, constantValue := 0 }, { name := "DAY_SCALE", type := .long, accessFlags := 26, slot := 13, constantValue := 0 }, { name := "scale", type := .long, accessFlags := 18, slot := 3, constantValue := 0 }, { name := "maxNanos", type := .long, accessFlags := 18, slot := 4, constantValue := 0 }, { name := "maxMicros", type := .long, accessFlags := 18, slot := 5, constantValue := 0 }, { name := "maxMillis", type := .long, accessFlags := 18, slot := 6, constantValue := 0 }, { name := "maxSecs", type := .long, accessFlags := 18, slot := 7, constantValue := 0 }, { name := "microRatio", type := .long, accessFlags := 18, slot := 8, constantValue := 0 }, { name := "milliRatio", type := .int, accessFlags := 18, slot := 9, constantValue := 0 }, { name := "secRatio", type := .int, accessFlags := 18, slot := 10, constantValue := 0 }, { name := "$VALUES", type := (.array (.object "java/util/concurrent/TimeUnit")), accessFlags := 4122, slot := 14, constantValue := 0 }]
  methods := #[k8m0]
  instanceTypes := #[(.object "java/lang/String"), .int, .int, .long, .long, .long, .long, .long, .long, .int, .int]
  staticTypes := #[(.object "java/util/concurrent/TimeUnit"), (.object "java/util/concurrent/TimeUnit"), (.object "java/util/concurrent/TimeUnit"), (.object "java/util/concurrent/TimeUnit"), (.object "java/util/concurrent/TimeUnit"), (.object "java/util/concurrent/TimeUnit"), (.object "java/util/concurrent/TimeUnit"), .long, .long, .long, .long, .long, .long, .long, (.array (.object "java/util/concurrent/TimeUnit"))]
  resolved := Array.replicate 283 none
  statics := some 0 }

def pool9 : Array CpInfo := pool [(1, u "java/lang/Cloneable"), (0, .class_ 1), (0, u "java/lang/Object"), (0, .class_ 3)] 3

/-- java/lang/Cloneable -/
def k9 : Class := { plain "java/lang/Cloneable" (some 0) with
  accessFlags := 1537
  interfaces := #[]
  cf := some (fileOf pool9 2 #[] #[] 1537 4 #[] #[])
  fields := #[]
  methods := #[]
  instanceTypes := #[]
  staticTypes := #[]
  resolved := Array.replicate 8 none
  statics := none }

/-- the primitive byte -/
def k10 : Class := { plain "byte" none with kind := .primitive 'B', accessFlags := 0x411 }
/-- [B -/
def k11 : Class := { plain "[B" (some 0) with kind := .array 10 .byte, interfaces := #[9, 6], accessFlags := 1041 }

/-- the primitive int -/
def k12 : Class := { plain "int" none with kind := .primitive 'I', accessFlags := 0x411 }
/-- [I -/
def k13 : Class := { plain "[I" (some 0) with kind := .array 12 .int, interfaces := #[9, 6], accessFlags := 1041 }

def k14 : Class := plain "java/lang/String" (some 0)
def heap : Heap := #[{ cls := 8, slots := #[.ref 1, .null, .null, .null, .null, .null, .null, .long 0, .long 0, .long 0, .long 0, .long 0, .long 0, .long 0, .null], vm := .statics 8 },
  { cls := 8, slots := #[.ref 2, .int 0, .int 0, .long 1, .long 9223372036854775807, .long 9223372036854775, .long 9223372036854, .long 9223372036, .long 1000, .int 1000000, .int 1000000000], vm := .none },
  { cls := 14, slots := #[], vm := .none }]
def classes : Array Class := #[k0, k1, k2, k3, k4, k5, k6, k7, k8, k9, k10, k11, k12, k13, k14]
def interned : List (Array UInt16 × Addr) := []
def slotsUsed : Nat := 26
def theMethod : MethodId := ⟨1, 1⟩
def args0 : Array Value := #[.int 3, .long 7, .long 8, .long 9]
def aboutOver (below : List Frame) : State where
  vm := { classes := classes, interned := interned.toArray }
  heap := heap
  slotsUsed := slotsUsed
  threads := #[{ frames := .invoking theMethod args0 :: below }]
def below0 : List Frame := [.native { method := ⟨0, 0⟩, args := #[] }]
def about1 : State := aboutOver below0
def p0 : Program := .bare "" "" ""
def e0 : Env := launch0.env 0 0 0
theorem w_frames : about1.frames = Frame.invoking theMethod args0 :: below0 := rfl
set_option maxRecDepth 65536 in
theorem w_args : argsFit about1.vm theMethod args0 = true := by decide +kernel
set_option maxRecDepth 65536 in
theorem w_heap : heapFits about1 = true := by decide +kernel
set_option maxRecDepth 65536 in
theorem w_runnable : about1.curStatus? = some .runnable := by decide +kernel
set_option maxRecDepth 65536 in
theorem w_alone : about1.alone = true := by decide +kernel
set_option maxRecDepth 65536 in
theorem w_named : about1.methodNamed? x = some theMethod := by decide +kernel
set_option maxRecDepth 65536 in
theorem w_hears : about1.hears theMethod below0 = true := by decide +kernel
set_option maxRecDepth 65536 in
theorem w_ripe : about1.ripe theMethod args0 below0 = true := by decide +kernel
theorem w_running : about1.status = .running := rfl
set_option maxRecDepth 65536 in
theorem w_room : about1.hasRoom e0.platform room_1 = true :=
  launch0.hasRoom_least _ room_1 (by decide +kernel) (by decide +kernel) (by decide +kernel) (by decide +kernel) (by decide +kernel) (by decide +kernel)
theorem allAtoms_all (ts : List Jvm.Cond) (a : Array Jvm.Value) (st : Jvm.State) : (allAtoms ts).before a st = ts.all (fun c => c.before a st) := by
  induction ts with
  | nil => rfl
  | cons c t ih =>
    show (Jvm.Cond.and c (allAtoms t)).before a st = _
    rw [Jvm.Cond.before_and, ih, List.all_cons]
def words1 : List Jvm.Cond := Jvm.Cond.code x code maxLocals ret :: tables_1
/-- a 'code' word, met by the world's own term for the bytes: nothing is compared byte by byte -/
theorem code_word {y : MethodName} {bytes : ByteArray} {mx : Nat} {rt : Option FieldType} {a : Array Value} {s : State} {m : MethodId} {meth : Method} {c : Code} (h1 : s.methodNamed? y = some m) (h2 : s.vm.method? m = some meth) (h3 : meth.code = some c) (h4 : c.code = bytes)
    (h5 : (c.maxLocals == mx && c.exceptionTable.isEmpty && decide (c.maxStack ≤ mostOperands) && decide (meth.sig.returnType = rt) && !meth.locks && decide (parseMethodDescriptor y.desc = some meth.sig)) = true) : (Jvm.Cond.code y bytes mx rt).before a s = true := by
  simp only [Bool.and_eq_true, beq_iff_eq, Bool.not_eq_true', decide_eq_true_eq] at h5
  obtain ⟨⟨⟨⟨⟨g1, g2⟩, g3⟩, g4⟩, g5⟩, g6⟩ := h5
  simp [Cond.before, Cond.holds, Cond.value, h1, h2, h3, h4, g1, g2, g3, g4, g5, g6]
def isCode : Jvm.Cond → Bool
  | .code _ _ _ _ => true
  | _ => false
theorem all_split {L : List Jvm.Cond} {P : Jvm.Cond → Bool} (h1 : L.all (fun c => isCode c || P c) = true) (h2 : ∀ c ∈ L.filter isCode, P c = true) : L.all P = true := by
  refine List.all_eq_true.mpr fun c hc => ?_
  have h := List.all_eq_true.mp h1 c hc
  rcases Bool.eq_false_or_eq_true (isCode c) with hi | hi
  · exact h2 c (List.mem_filter.mpr ⟨hc, hi⟩)
  · simpa [hi] using h
set_option maxRecDepth 65536 in
theorem w_c0 : (Jvm.Cond.code x code maxLocals ret).before args0 about1 = true := code_word (m := ⟨1, 1⟩) (meth := k1m1) (c := k1c1) (by decide +kernel) rfl rfl rfl (by decide +kernel)
set_option maxRecDepth 65536 in
theorem w_c1 : (Jvm.Cond.code ({ cls := "com/example/cistern/cistern/PoolState$Counters", name := "<init>", desc := "()V" } : Jvm.MethodName) prog_17_method_1_code (1 : Nat) (Option.none : Option Jvm.ClassFile.FieldType)).before args0 about1 = true := code_word (m := ⟨2, 0⟩) (meth := k2m0) (c := k2c0) (by decide +kernel) rfl rfl rfl (by decide +kernel)
set_option maxRecDepth 65536 in
theorem w_c2 : (Jvm.Cond.code ({ cls := "java/lang/Object", name := "<init>", desc := "()V" } : Jvm.MethodName) object_method_1_code (1 : Nat) (Option.none : Option Jvm.ClassFile.FieldType)).before args0 about1 = true := code_word (m := ⟨0, 0⟩) (meth := k0m0) (c := k0c0) (by decide +kernel) rfl rfl rfl (by decide +kernel)
set_option maxRecDepth 65536 in
theorem w_c3 : (Jvm.Cond.code ({ cls := "com/example/cistern/cistern/PoolState$Counters", name := "snapshot", desc := "(III)Lcom/example/cistern/cistern/PoolState;" } : Jvm.MethodName) prog_17_method_9_code (4 : Nat) (Option.some (Jvm.ClassFile.FieldType.object "com/example/cistern/cistern/PoolState"))).before args0 about1 = true := code_word (m := ⟨2, 2⟩) (meth := k2m2) (c := k2c2) (by decide +kernel) rfl rfl rfl (by decide +kernel)
set_option maxRecDepth 65536 in
theorem w_c4 : (Jvm.Cond.code ({ cls := "com/example/cistern/cistern/PoolState", name := "<init>", desc := "(Lcom/example/cistern/cistern/PoolState$Counters;III)V" } : Jvm.MethodName) prog_16_method_1_code (5 : Nat) (Option.none : Option Jvm.ClassFile.FieldType)).before args0 about1 = true := code_word (m := ⟨3, 0⟩) (meth := k3m0) (c := k3c0) (by decide +kernel) rfl rfl rfl (by decide +kernel)
set_option maxRecDepth 65536 in
theorem w_c5 : (Jvm.Cond.code ({ cls := "com/example/cistern/cistern/PoolState", name := "averageMillis", desc := "(JJ)J" } : Jvm.MethodName) prog_16_method_2_code (4 : Nat) (Option.some Jvm.ClassFile.FieldType.long)).before args0 about1 = true := code_word (m := ⟨3, 1⟩) (meth := k3m1) (c := k3c1) (by decide +kernel) rfl rfl rfl (by decide +kernel)
set_option maxRecDepth 65536 in
theorem w_c6 : (Jvm.Cond.code ({ cls := "com/example/cistern/cistern/PoolState", name := "getAverageCheckoutTime", desc := "()J" } : Jvm.MethodName) prog_16_method_10_code (1 : Nat) (Option.some Jvm.ClassFile.FieldType.long)).before args0 about1 = true := code_word (m := ⟨3, 5⟩) (meth := k3m5) (c := k3c5) (by decide +kernel) rfl rfl rfl (by decide +kernel)
set_option maxRecDepth 65536 in
theorem w_c7 : (Jvm.Cond.code ({ cls := "com/example/cistern/cistern/PoolState", name := "getClaimedOverdueConnectionCount", desc := "()J" } : Jvm.MethodName) prog_16_method_8_code (1 : Nat) (Option.some Jvm.ClassFile.FieldType.long)).before args0 about1 = true := code_word (m := ⟨3, 4⟩) (meth := k3m4) (c := k3c4) (by decide +kernel) rfl rfl rfl (by decide +kernel)
set_option maxRecDepth 65536 in
theorem w_c8 : (Jvm.Cond.code ({ cls := "com/example/cistern/cistern/PoolState", name := "getRequestCount", desc := "()J" } : Jvm.MethodName) prog_16_method_3_code (1 : Nat) (Option.some Jvm.ClassFile.FieldType.long)).before args0 about1 = true := code_word (m := ⟨3, 2⟩) (meth := k3m2) (c := k3c2) (by decide +kernel) rfl rfl rfl (by decide +kernel)
set_option maxRecDepth 65536 in
theorem w_c9 : (Jvm.Cond.code ({ cls := "com/example/cistern/cistern/PoolState", name := "getHadToWaitCount", desc := "()J" } : Jvm.MethodName) prog_16_method_5_code (1 : Nat) (Option.some Jvm.ClassFile.FieldType.long)).before args0 about1 = true := code_word (m := ⟨3, 3⟩) (meth := k3m3) (c := k3c3) (by decide +kernel) rfl rfl rfl (by decide +kernel)
set_option maxRecDepth 65536 in
theorem w_c10 : (Jvm.Cond.code ({ cls := "com/example/cistern/cistern/PoolState", name := "getConnectionsOpened", desc := "()J" } : Jvm.MethodName) prog_16_method_14_code (1 : Nat) (Option.some Jvm.ClassFile.FieldType.long)).before args0 about1 = true := code_word (m := ⟨3, 6⟩) (meth := k3m6) (c := k3c6) (by decide +kernel) rfl rfl rfl (by decide +kernel)
set_option maxRecDepth 65536 in
theorem w_c11 : (Jvm.Cond.code ({ cls := "com/example/cistern/cistern/PoolState$Counters", name := "checkedIn", desc := "(J)V" } : Jvm.MethodName) prog_17_method_6_code (3 : Nat) (Option.none : Option Jvm.ClassFile.FieldType)).before args0 about1 = true := code_word (m := ⟨2, 1⟩) (meth := k2m1) (c := k2c1) (by decide +kernel) rfl rfl rfl (by decide +kernel)
set_option maxRecDepth 65536 in
theorem w_c12 : (Jvm.Cond.code ({ cls := "java/util/concurrent/TimeUnit", name := "toMillis", desc := "(J)J" } : Jvm.MethodName) jdk_2799_method_9_code (7 : Nat) (Option.some Jvm.ClassFile.FieldType.long)).before args0 about1 = true := code_word (m := ⟨8, 0⟩) (meth := k8m0) (c := k8c0) (by decide +kernel) rfl rfl rfl (by decide +kernel)
def codes1 : List Jvm.Cond := [Jvm.Cond.code x code maxLocals ret, Jvm.Cond.code ({ cls := "com/example/cistern/cistern/PoolState$Counters", name := "<init>", desc := "()V" } : Jvm.MethodName) prog_17_method_1_code (1 : Nat) (Option.none : Option Jvm.ClassFile.FieldType), Jvm.Cond.code ({ cls := "java/lang/Object", name := "<init>", desc := "()V" } : Jvm.MethodName) object_method_1_code (1 : Nat) (Option.none : Option Jvm.ClassFile.FieldType), Jvm.Cond.code ({ cls := "com/example/cistern/cistern/PoolState$Counters", name := "snapshot", desc := "(III)Lcom/example/cistern/cistern/PoolState;" } : Jvm.MethodName) prog_17_method_9_code (4 : Nat) (Option.some (Jvm.ClassFile.FieldType.object "com/example/cistern/cistern/PoolState")), Jvm.Cond.code ({ cls := "com/example/cistern/cistern/PoolState", name := "<init>", desc := "(Lcom/example/cistern/cistern/PoolState$Counters;III)V" } : Jvm.MethodName) prog_16_method_1_code (5 : Nat) (Option.none : Option Jvm.ClassFile.FieldType), Jvm.Cond.code ({ cls := "com/example/cistern/cistern/PoolState", name := "averageMillis", desc := "(JJ)J" } : Jvm.MethodName) prog_16_method_2_code (4 : Nat) (Option.some Jvm.ClassFile.FieldType.long), Jvm.Cond.code ({ cls := "com/example/cistern/cistern/PoolState", name := "getAverageCheckoutTime", desc := "()J" } : Jvm.MethodName) prog_16_method_10_code (1 : Nat) (Option.some Jvm.ClassFile.FieldType.long), Jvm.Cond.code ({ cls := "com/example/cistern/cistern/PoolState", name := "getClaimedOverdueConnectionCount", desc := "()J" } : Jvm.MethodName) prog_16_method_8_code (1 : Nat) (Option.some Jvm.ClassFile.FieldType.long), Jvm.Cond.code ({ cls := "com/example/cistern/cistern/PoolState", name := "getRequestCount", desc := "()J" } : Jvm.MethodName) prog_16_method_3_code (1 : Nat) (Option.some Jvm.ClassFile.FieldType.long), Jvm.Cond.code ({ cls := "com/example/cistern/cistern/PoolState", name := "getHadToWaitCount", desc := "()J" } : Jvm.MethodName) prog_16_method_5_code (1 : Nat) (Option.some Jvm.ClassFile.FieldType.long), Jvm.Cond.code ({ cls := "com/example/cistern/cistern/PoolState", name := "getConnectionsOpened", desc := "()J" } : Jvm.MethodName) prog_16_method_14_code (1 : Nat) (Option.some Jvm.ClassFile.FieldType.long), Jvm.Cond.code ({ cls := "com/example/cistern/cistern/PoolState$Counters", name := "checkedIn", desc := "(J)V" } : Jvm.MethodName) prog_17_method_6_code (3 : Nat) (Option.none : Option Jvm.ClassFile.FieldType), Jvm.Cond.code ({ cls := "java/util/concurrent/TimeUnit", name := "toMillis", desc := "(J)J" } : Jvm.MethodName) jdk_2799_method_9_code (7 : Nat) (Option.some Jvm.ClassFile.FieldType.long)]
set_option maxRecDepth 65536 in
theorem codes_eq : words1.filter isCode = codes1 := rfl
theorem w_codes : ∀ c ∈ words1.filter isCode, c.before args0 about1 = true := by
  rw [codes_eq]
  intro c hc
  simp only [codes1, List.mem_cons, List.not_mem_nil, or_false] at hc
  rcases hc with rfl | rfl | rfl | rfl | rfl | rfl | rfl | rfl | rfl | rfl | rfl | rfl | rfl
  · exact w_c0
  · exact w_c1
  · exact w_c2
  · exact w_c3
  · exact w_c4
  · exact w_c5
  · exact w_c6
  · exact w_c7
  · exact w_c8
  · exact w_c9
  · exact w_c10
  · exact w_c11
  · exact w_c12
set_option maxRecDepth 65536 in
theorem w_t1 : (words1.take 24).all (fun c => isCode c || c.before args0 about1) = true := by decide +kernel
set_option maxRecDepth 65536 in
theorem w_t2 : ((words1.drop 24).take 24).all (fun c => isCode c || c.before args0 about1) = true := by decide +kernel
set_option maxRecDepth 65536 in
theorem w_t3 : (((words1.drop 24).drop 24).take 24).all (fun c => isCode c || c.before args0 about1) = true := by decide +kernel
set_option maxRecDepth 65536 in
theorem w_t4 : ((((words1.drop 24).drop 24).drop 24).take 24).all (fun c => isCode c || c.before args0 about1) = true := by decide +kernel
set_option maxRecDepth 65536 in
theorem w_t5 : ((((words1.drop 24).drop 24).drop 24).drop 24).all (fun c => isCode c || c.before args0 about1) = true := by decide +kernel
theorem w_tables : (allAtoms (Jvm.Cond.code x code maxLocals ret :: tables_1)).before args0 about1 = true := by
  rw [allAtoms_all]
  show words1.all (fun c => c.before args0 about1) = true
  refine all_split ?_ w_codes
  rw [← List.take_append_drop 24 words1, List.all_append, w_t1, ← List.take_append_drop 24 (words1.drop 24), List.all_append, w_t2, ← List.take_append_drop 24 ((words1.drop 24).drop 24), List.all_append, w_t3, ← List.take_append_drop 24 (((words1.drop 24).drop 24).drop 24), List.all_append, w_t4, w_t5]
  rfl
set_option maxRecDepth 65536 in
theorem w_rest : rest_1_c.before args0 about1 = true := by decide +kernel
set_option maxRecDepth 65536 in
theorem w_case : (Jvm.Cond.and given_1 narrow_1).before args0 about1 = true := by decide +kernel
theorem w_applies : (headSpec (Jvm.Cond.code x code maxLocals ret :: tables_1) room_1).applies x e0.platform about1 = true :=
  (Spec.applies_iff w_frames).mpr ⟨w_running, w_runnable, w_alone, w_named, w_hears, w_ripe, w_room, w_tables⟩
theorem atStart : AtStart classFile x code maxLocals ret World_1 tables_1 room_1 Calls_1 rest_1 Pre_1 launch0 p0 e0 about1 theMethod args0 below0 :=
  ⟨lists_1, trivial, launch0.admits_env _ _ _, launch0.least_env, fairChoices_fair.cas, fairChoices_fair.clock, w_frames, w_args, w_heap, w_applies, trivial, w_rest, w_case⟩
end start1
theorem witness_1 : WitnessClaimed_1 := ⟨start1.p0, start1.e0, start1.about1, start1.theMethod, start1.args0, start1.below0, start1.atStart⟩
end Jvm.Pilot.@@N@@
