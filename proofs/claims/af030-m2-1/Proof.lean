import JvmDerived
import JvmDerived.Pilot.@@N@@Statement
import JvmDerived.Pilot.@@N@@Code
set_option linter.unusedVariables false
set_option linter.unusedSimpArgs false
/- laws to paste: Road.backV (cut by pick.py; bodies as the Statement names them) -/
namespace Jvm.Pilot.@@N@@
namespace StrChars
open Jvm Sem ClassFile Op Lib Jvm.Stand Jvm.Free.XT Jvm.Free.ALB Jvm.Free.JM Jvm.Free
open Jvm.Lib.Cold (StaticIs)
/-- a char array whose places are chars -/
def Ch (a : Addr) (A : Cell) (U : State) : Prop := Arr .char a A U ∧ Typed .char A
theorem Ch.mv {a : Addr} {A : Cell} {U U' : State} (h : Ch a A U) (hal : U.vm.Alike U'.vm) (hh : U'.heap = U.heap) : Ch a A U' := ⟨h.1.mv hal hh, h.2⟩
theorem Ch.keep {a : Addr} {A : Cell} {U U' : State} (h : Ch a A U) (hal : U.vm.Alike U'.vm) (hk : U'.heap[a]? = some A) : Ch a A U' := ⟨h.1.keep hal hk, h.2⟩
/-- what place i of a char[]'s cell holds -/
def cv (A : Cell) (i : Nat) : Int32 := match A.slots[i]? with | some (.int x) => x | _ => 0
theorem Ch.get {a : Addr} {A : Cell} {U : State} (h : Ch a A U) {i : Nat} (hi : i < A.slots.size) : A.slots[i]? = some (.int (cv A i)) := by
  have e := Array.getElem?_eq_getElem hi
  have f := h.2 i _ e
  unfold cv; rw [e]
  generalize A.slots[i] = v at f
  cases v <;> simp [fits] at f ⊢
/-- the byte that i2b leaves of a char -/
def lo8 (x : Int32) : Int32 := x.toInt8.toInt32
theorem fits_lo8 (y : Int32) : fits .byte (.int (lo8 y)) = true := by
  have h1 := y.toInt8.le_toInt
  have h2 := y.toInt8.toInt_lt
  simp only [lo8, fits, Bool.and_eq_true, decide_eq_true_eq, Int32.le_iff_toInt_le, Int8.toInt_toInt32, show (-128 : Int32).toInt = -128 from by decide, show (127 : Int32).toInt = 127 from by decide]
  omega
/-- A' is A but that each place j of lo .. hi - 1 holds f j -/
def Laid (A A' : Cell) (lo hi : Nat) (f : Nat → Value) : Prop := A'.cls = A.cls ∧ A'.vm = A.vm ∧ A'.slots.size = A.slots.size ∧ ∀ i, A'.slots[i]? = if lo ≤ i ∧ i < hi then some (f i) else A.slots[i]?
theorem Laid.zero (A : Cell) (lo : Nat) (f : Nat → Value) : Laid A A lo (lo + 0) f := ⟨rfl, rfl, rfl, fun i => by rw [if_neg (by omega)]⟩
theorem Laid.step {A Ak : Cell} {lo k : Nat} {f : Nat → Value} {v : Value} (h : Laid A Ak lo k f) (hlo : lo ≤ k) (hk : k < Ak.slots.size) (hv : v = f k) : Laid A (Ak.setSlot k v) lo (k + 1) f := by
  refine ⟨h.1, h.2.1, by simpa [Cell.setSlot] using h.2.2.1, fun i => ?_⟩
  by_cases e : k = i
  · subst e; rw [Cell.slots_setSlot_self v hk, if_pos (by omega), hv]
  · rw [Cell.slots_setSlot_ne v e, h.2.2.2 i]
    by_cases q : lo ≤ i ∧ i < k
    · rw [if_pos q, if_pos (by omega)]
    · rw [if_neg q, if_neg (by omega)]
def U16 : String := "java/lang/StringUTF16"
namespace Cmp5
def yN : MethodName := ⟨"java/lang/StringUTF16", "compress", "([CI[BII)I"⟩
abbrev yB : ByteArray := jdk_52_method_21_code
theorem d0 : decode yB 0 = .ok (.iconst 0, 1) := by decide +kernel
theorem d1 : decode yB 1 = .ok (.istore 5, 2) := by decide +kernel
theorem d3 : decode yB 3 = .ok (.iload 5, 2) := by decide +kernel
theorem d5 : decode yB 5 = .ok (.iload 4, 2) := by decide +kernel
theorem d7 : decode yB 7 = .ok (.if_icmp (.ge) 37, 3) := by decide +kernel
theorem d10 : decode yB 10 = .ok (.aload_n 0, 1) := by decide +kernel
theorem d11 : decode yB 11 = .ok (.iload_n 1, 1) := by decide +kernel
theorem d12 : decode yB 12 = .ok (.caload, 1) := by decide +kernel
theorem d13 : decode yB 13 = .ok (.istore 6, 2) := by decide +kernel
theorem d15 : decode yB 15 = .ok (.iload 6, 2) := by decide +kernel
theorem d17 : decode yB 17 = .ok (.sipush 255, 3) := by decide +kernel
theorem d20 : decode yB 20 = .ok (.if_icmp (.le) 6, 3) := by decide +kernel
theorem d26 : decode yB 26 = .ok (.aload_n 2, 1) := by decide +kernel
theorem d27 : decode yB 27 = .ok (.iload_n 3, 1) := by decide +kernel
theorem d28 : decode yB 28 = .ok (.iload 6, 2) := by decide +kernel
theorem d30 : decode yB 30 = .ok (.i2b, 1) := by decide +kernel
theorem d31 : decode yB 31 = .ok (.bastore, 1) := by decide +kernel
theorem d32 : decode yB 32 = .ok (.iinc 1 1, 3) := by decide +kernel
theorem d35 : decode yB 35 = .ok (.iinc 3 1, 3) := by decide +kernel
theorem d38 : decode yB 38 = .ok (.iinc 5 1, 3) := by decide +kernel
theorem d41 : decode yB 41 = .ok (.goto (-38), 3) := by decide +kernel
theorem d44 : decode yB 44 = .ok (.iload 4, 2) := by decide +kernel
theorem d46 : decode yB 46 = .ok (.ireturn, 1) := by decide +kernel
def site : List Cond := []
def tab : Cond := tabOf yN yB 7 (some .int) site
def P (b : Addr) (A : Cell) (d : Addr) (B : Cell) (o q len : Nat) (args : Array Value) (s : State) : Prop := args = #[.ref b, .int (Int32.ofNat o), .ref d, .int (Int32.ofNat q), .int (Int32.ofNat len)] ∧ Ch b A s ∧ Arr .byte d B s ∧ b ≠ d ∧ o + len ≤ A.slots.size ∧ q + len ≤ B.slots.size ∧ ∀ i, i < len → ¬ 255 < cv A (o + i)
def E (b : Addr) (A : Cell) (d : Addr) (B : Cell) (o q len : Nat) (r : Option Value) (s u : State) : Prop := r = some (.int (Int32.ofNat len)) ∧ ∃ B', Put d B' s u ∧ Laid B B' q (q + len) (fun j => Value.int (lo8 (cv A (o + (j - q)))))
/-- no char of the range above 255: len; the places written hold each char's low byte -/
theorem law (l : Launch) (b : Addr) (A : Cell) (d : Addr) (B : Cell) (o q len : Nat) : Law l yN 5 5 0 0 yB 7 (some .int) site (P b A d B o q len) (E b A d B o q len) (copyLocs d q len) 0 0 := by
  refine Law.of_walk (plainFor_of_name (by decide +kernel)) (by decide +kernel) (by decide +kernel) (by decide) (fun _ _ h => by rw [h.1]; rfl) (fun _ U U' hal hh h => ⟨h.1, h.2.1.mv hal hh, h.2.2.1.mv hal hh, h.2.2.2⟩) (fun r U U' V V' h1 hal h2 h => ⟨h.1, h.2.elim fun B' q => ⟨B', q.1.mv h1 h2, q.2⟩⟩) ?_
  intro p e s m args below meth c s₁ X0 hexec hbytes hml hret hlk hnm hown hh0 W hP
  obtain ⟨rfl, hA, hB, hne, l1, l2, hp⟩ := hP
  have c1 : Steps p.tables e below (s₁.setTop (entryFrame m #[.ref b, .int (Int32.ofNat o), .ref d, .int (Int32.ofNat q), .int (Int32.ofNat len)] 7)) (s₁.setTop (mkF m 0 #[.val (.ref b), .val (.int (Int32.ofNat o)), .val (.ref d), .val (.int (Int32.ofNat q)), .val (.int (Int32.ofNat len)), .unset, .unset] [])) := entry rfl
  have hA0 := hA.1.mv X0.warmed.alike hh0
  have hB0 := hB.mv X0.warmed.alike hh0
  have a31 := hA.1.2.2.2
  have c2 : Steps p.tables e below (s₁.setTop (entryFrame m #[.ref b, .int (Int32.ofNat o), .ref d, .int (Int32.ofNat q), .int (Int32.ofNat len)] 7)) (s₁.setTop (mkF m 3 #[.val (.ref b), .val (.int (Int32.ofNat o)), .val (.ref d), .val (.int (Int32.ofNat q)), .val (.int (Int32.ofNat len)), .val (.int 0), .unset] [])) := c1.trans (by
    refine iconstV X0.here hexec rfl 0 (hb hbytes d0) (by decide) ?_
    refine XS.istore X0.here hexec rfl (hb hbytes d1) rfl rfl ?_
    exact Steps.refl _)
  have loop : ∀ (r i : Nat), i + r = len → ∀ (z : Slot), (z = .unset ∨ ∃ w, z = .val w ∧ w.category = 1) → ∀ (Tl : State) (Bk : Cell), Stand p l e { frames := 0, locals := 0, cells := 0, slots := 0 } s m #[.ref b, .int (Int32.ofNat o), .ref d, .int (Int32.ofNat q), .int (Int32.ofNat len)] below meth c Tl ([] ++ copyLocs d q i) 0 0 → Put d Bk s₁ Tl → Laid B Bk q (q + i) (fun j => Value.int (lo8 (cv A (o + (j - q))))) →
      Steps p.tables e below (s₁.setTop (entryFrame m #[.ref b, .int (Int32.ofNat o), .ref d, .int (Int32.ofNat q), .int (Int32.ofNat len)] 7)) (Tl.setTop (mkF m 3 #[.val (.ref b), .val (.int (Int32.ofNat (o + i))), .val (.ref d), .val (.int (Int32.ofNat (q + i))), .val (.int (Int32.ofNat len)), .val (.int (Int32.ofNat i)), z] [])) → ∃ (T' : State) (B' : Cell) (z' : Slot), Stand p l e { frames := 0, locals := 0, cells := 0, slots := 0 } s m #[.ref b, .int (Int32.ofNat o), .ref d, .int (Int32.ofNat q), .int (Int32.ofNat len)] below meth c T' ([] ++ copyLocs d q len) 0 0 ∧ Put d B' s₁ T' ∧ Laid B B' q (q + len) (fun j => Value.int (lo8 (cv A (o + (j - q))))) ∧
      Steps p.tables e below (s₁.setTop (entryFrame m #[.ref b, .int (Int32.ofNat o), .ref d, .int (Int32.ofNat q), .int (Int32.ofNat len)] 7)) (T'.setTop (mkF m 3 #[.val (.ref b), .val (.int (Int32.ofNat (o + len))), .val (.ref d), .val (.int (Int32.ofNat (q + len))), .val (.int (Int32.ofNat len)), .val (.int (Int32.ofNat len)), z'] [])) := by
    intro r
    induction r with
    | zero =>
      intro i hi z hz Tl Bk Xl pl fl cl
      have hil : i = len := by omega
      rw [hil] at Xl fl cl
      exact ⟨Tl, Bk, z, Xl, pl, fl, cl⟩
    | succ r ih =>
      intro i hi z hz Tl Bk Xl pl fl cl
      have all := X0.warmed.alike.symm.trans Xl.warmed.alike
      have hAl := hA0.keep all (pl.other hne hA0.1)
      have hBk := hB0.like all pl.1 fl.1 fl.2.1 fl.2.2.1
      have hlt : q + i < Bk.slots.size := by rw [fl.2.2.1]; omega
      have c3 : Steps p.tables e below (s₁.setTop (entryFrame m #[.ref b, .int (Int32.ofNat o), .ref d, .int (Int32.ofNat q), .int (Int32.ofNat len)] 7)) (Tl.setTop (mkF m 12 #[.val (.ref b), .val (.int (Int32.ofNat (o + i))), .val (.ref d), .val (.int (Int32.ofNat (q + i))), .val (.int (Int32.ofNat len)), .val (.int (Int32.ofNat i)), z] [.int (Int32.ofNat (o + i)), .ref b])) := cl.trans (by
        refine XS.iload Xl.here hexec rfl (hb hbytes d3) rfl ?_
        refine XS.iload Xl.here hexec rfl (hb hbytes d5) rfl ?_
        refine XS.icmpNo Xl.here hexec rfl (hb hbytes d7) rfl (ii_ge_f (lt32 (by omega) (by omega))) ?_
        refine XS.aloadN Xl.here hexec rfl (hb hbytes d10) rfl rfl ?_
        refine XS.iloadN Xl.here hexec rfl (hb hbytes d11) rfl ?_
        exact Steps.refl _)
      have c4 : Steps p.tables e below (s₁.setTop (entryFrame m #[.ref b, .int (Int32.ofNat o), .ref d, .int (Int32.ofNat q), .int (Int32.ofNat len)] 7)) (Tl.setTop (mkF m 13 #[.val (.ref b), .val (.int (Int32.ofNat (o + i))), .val (.ref d), .val (.int (Int32.ofNat (q + i))), .val (.int (Int32.ofNat len)), .val (.int (Int32.ofNat i)), z] [.int (cv A (o + i))])) := c3.trans (by
        refine Xl.aget hexec hAl rfl (hA.get (i := o + i) (by omega)) rfl rfl (hb hbytes d12) ?_
        exact Steps.refl _)
      have c5 : Steps p.tables e below (s₁.setTop (entryFrame m #[.ref b, .int (Int32.ofNat o), .ref d, .int (Int32.ofNat q), .int (Int32.ofNat len)] 7)) (Tl.setTop (mkF m 15 #[.val (.ref b), .val (.int (Int32.ofNat (o + i))), .val (.ref d), .val (.int (Int32.ofNat (q + i))), .val (.int (Int32.ofNat len)), .val (.int (Int32.ofNat i)), .val (.int (cv A (o + i)))] [])) := c4.trans (by
        refine XS.istoreS Xl.here hexec rfl (hb hbytes d13) rfl rfl hz ?_
        exact Steps.refl _)
      have c6 : Steps p.tables e below (s₁.setTop (entryFrame m #[.ref b, .int (Int32.ofNat o), .ref d, .int (Int32.ofNat q), .int (Int32.ofNat len)] 7)) (Tl.setTop (mkF m 31 #[.val (.ref b), .val (.int (Int32.ofNat (o + i))), .val (.ref d), .val (.int (Int32.ofNat (q + i))), .val (.int (Int32.ofNat len)), .val (.int (Int32.ofNat i)), .val (.int (cv A (o + i)))] [.int (lo8 (cv A (o + i))), .int (Int32.ofNat (q + i)), .ref d])) := c5.trans (by
        refine XS.iload Xl.here hexec rfl (hb hbytes d15) rfl ?_
        refine sipushV Xl.here hexec rfl 255 (hb hbytes d17) (by decide) ?_
        refine XS.icmpYes Xl.here hexec rfl (pc0 := 20) rfl (hb hbytes d20) rfl (ii_le_t (hp i (by omega))) (by decide) rfl ?_
        refine XS.aloadN Xl.here hexec rfl (hb hbytes d26) rfl rfl ?_
        refine XS.iloadN Xl.here hexec rfl (hb hbytes d27) rfl ?_
        refine XS.iload Xl.here hexec rfl (hb hbytes d28) rfl ?_
        refine i2b Xl.here hexec rfl (hb hbytes d30) rfl ?_
        exact Steps.refl _)
      obtain ⟨T7, X7, p7, st7⟩ := Xl.aput hexec hBk rfl hlt rfl (fits_lo8 (cv A (o + i))) (g := (mkF m 31 #[.val (.ref b), .val (.int (Int32.ofNat (o + i))), .val (.ref d), .val (.int (Int32.ofNat (q + i))), .val (.int (Int32.ofNat len)), .val (.int (Int32.ofNat i)), .val (.int (cv A (o + i)))] [.int (lo8 (cv A (o + i))), .int (Int32.ofNat (q + i)), .ref d])) rfl (rest := []) rfl (hb hbytes d31)
      have c8 : Steps p.tables e below (s₁.setTop (entryFrame m #[.ref b, .int (Int32.ofNat o), .ref d, .int (Int32.ofNat q), .int (Int32.ofNat len)] 7)) (T7.setTop (mkF m 32 #[.val (.ref b), .val (.int (Int32.ofNat (o + i))), .val (.ref d), .val (.int (Int32.ofNat (q + i))), .val (.int (Int32.ofNat len)), .val (.int (Int32.ofNat i)), .val (.int (cv A (o + i)))] [])) := c6.trans (st7 _ (Steps.refl _))
      have c9 : Steps p.tables e below (s₁.setTop (entryFrame m #[.ref b, .int (Int32.ofNat o), .ref d, .int (Int32.ofNat q), .int (Int32.ofNat len)] 7)) (T7.setTop (mkF m 3 #[.val (.ref b), .val (.int (Int32.ofNat (o + i) + 1)), .val (.ref d), .val (.int (Int32.ofNat (q + i) + 1)), .val (.int (Int32.ofNat len)), .val (.int (Int32.ofNat i + 1)), .val (.int (cv A (o + i)))] [])) := c8.trans (by
        refine iincV X7.here hexec rfl 1 (hb hbytes d32) (by decide) rfl rfl ?_
        refine iincV X7.here hexec rfl 1 (hb hbytes d35) (by decide) rfl rfl ?_
        refine iincV X7.here hexec rfl 1 (hb hbytes d38) (by decide) rfl rfl ?_
        refine XS.goto X7.here hexec rfl (pc0 := 41) rfl (hb hbytes d41) (by decide) rfl ?_
        exact Steps.refl _)
      have c10 : Steps p.tables e below (s₁.setTop (entryFrame m #[.ref b, .int (Int32.ofNat o), .ref d, .int (Int32.ofNat q), .int (Int32.ofNat len)] 7)) (T7.setTop (mkF m 3 #[.val (.ref b), .val (.int (Int32.ofNat (o + (i + 1)))), .val (.ref d), .val (.int (Int32.ofNat (q + (i + 1)))), .val (.int (Int32.ofNat len)), .val (.int (Int32.ofNat (i + 1))), .val (.int (cv A (o + i)))] [])) := by
        have := c9
        rw [succ32, succ32, succ32] at this
        exact this
      exact ih (i + 1) (by omega) _ (Or.inr ⟨_, rfl, rfl⟩) T7 _ (by rw [copyLocs_step, ← List.append_assoc]; exact X7) (pl.trans p7) (fl.step (by omega) hlt (by simp)) c10
  obtain ⟨T9, B9, z9, X9, p9, f9, g9⟩ := loop len 0 (by omega) .unset (Or.inl rfl) s₁ B (by simpa [copyLocs] using X0) ⟨hB0.1, fun _ _ => rfl, rfl⟩ (Laid.zero _ _ _) c2
  have c11 : Steps p.tables e below (s₁.setTop (entryFrame m #[.ref b, .int (Int32.ofNat o), .ref d, .int (Int32.ofNat q), .int (Int32.ofNat len)] 7)) (T9.setTop (mkF m 46 #[.val (.ref b), .val (.int (Int32.ofNat (o + len))), .val (.ref d), .val (.int (Int32.ofNat (q + len))), .val (.int (Int32.ofNat len)), .val (.int (Int32.ofNat len)), z9] [.int (Int32.ofNat len)])) := g9.trans (by
    refine XS.iload X9.here hexec rfl (hb hbytes d3) rfl ?_
    refine XS.iload X9.here hexec rfl (hb hbytes d5) rfl ?_
    refine XS.icmpYes X9.here hexec rfl (pc0 := 7) rfl (hb hbytes d7) rfl (ii_ge_t (nlt32 (by omega) (Nat.le_refl _))) (by decide) rfl ?_
    refine XS.iload X9.here hexec rfl (hb hbytes d44) rfl ?_
    exact Steps.refl _)
  exact ⟨T9, some (.int (Int32.ofNat len)), _, _, _, X9, by simp, rfl, rfl, (fun h => by cases h), ⟨rfl, B9, p9.from hh0, f9⟩, fun fs hl => c11.trans (X9.ireturnOut hexec hret rfl (Or.inl rfl) (hb hbytes d46) hl)⟩
end Cmp5
namespace Cmp3
def yN : MethodName := ⟨"java/lang/StringUTF16", "compress", "([CII)[B"⟩
abbrev yB : ByteArray := jdk_52_method_16_code
theorem d0 : decode yB 0 = .ok (.iload_n 2, 1) := by decide +kernel
theorem d1 : decode yB 1 = .ok (.newarray .byte, 2) := by decide +kernel
theorem d3 : decode yB 3 = .ok (.astore_n 3, 1) := by decide +kernel
theorem d4 : decode yB 4 = .ok (.aload_n 0, 1) := by decide +kernel
theorem d5 : decode yB 5 = .ok (.iload_n 1, 1) := by decide +kernel
theorem d6 : decode yB 6 = .ok (.aload_n 3, 1) := by decide +kernel
theorem d7 : decode yB 7 = .ok (.iconst 0, 1) := by decide +kernel
theorem d8 : decode yB 8 = .ok (.iload_n 2, 1) := by decide +kernel
theorem d9 : decode yB 9 = .ok (.invokestatic 115, 3) := by decide +kernel
theorem d12 : decode yB 12 = .ok (.istore 4, 2) := by decide +kernel
theorem d14 : decode yB 14 = .ok (.iload 4, 2) := by decide +kernel
theorem d16 : decode yB 16 = .ok (.iload_n 2, 1) := by decide +kernel
theorem d17 : decode yB 17 = .ok (.if_icmp (.eq) 40, 3) := by decide +kernel
theorem d57 : decode yB 57 = .ok (.aload_n 3, 1) := by decide +kernel
theorem d58 : decode yB 58 = .ok (.areturn, 1) := by decide +kernel
def site : List Cond := [.arrayClass .byte, Cmp5.tab] ++ staticW U16 115 Cmp5.yN
def tab : Cond := tabOf yN yB 6 (some (.array .byte)) site
def P (b : Addr) (A : Cell) (o len : Nat) (args : Array Value) (s : State) : Prop := args = #[.ref b, .int (Int32.ofNat o), .int (Int32.ofNat len)] ∧ Ch b A s ∧ o + len ≤ A.slots.size ∧ len ≤ 536870912 ∧ ∀ i, i < len → ¬ 255 < cv A (o + i)
def E (b : Addr) (A : Cell) (o len : Nat) (r : Option Value) (s u : State) : Prop := NewArr .byte "[B" len (fun j => .int (lo8 (cv A (o + j)))) r s u ∧ u.heap.size = s.heap.size + 1
/-- no char of the range above 255: a new byte[] of their low bytes -/
theorem law (l : Launch) (b : Addr) (A : Cell) (o len : Nat) : Law l yN 3 3 1 18 yB 6 (some (.array .byte)) site (P b A o len) (E b A o len) [] 1 len := by
  refine Law.of_walk (plainFor_of_name (by decide +kernel)) (by decide +kernel) (by decide +kernel) (by decide) (fun _ _ h => by rw [h.1]; rfl) (fun _ U U' hal hh h => ⟨h.1, h.2.1.mv hal hh, h.2.2⟩) (fun r U U' V V' h1 hal h2 h => ⟨NewArr.mv r U U' V V' h1 hal h2 h.1, by rw [h1, h2]; exact h.2⟩) ?_
  intro p e s m args below meth c s₁ X0 hexec hbytes hml hret hlk hnm hown hh0 W hP
  obtain ⟨rfl, hA, l1, l2, hp⟩ := hP
  have a31 := hA.1.2.2.2
  have c1 : Steps p.tables e below (s₁.setTop (entryFrame m #[.ref b, .int (Int32.ofNat o), .int (Int32.ofNat len)] 6)) (s₁.setTop (mkF m 0 #[.val (.ref b), .val (.int (Int32.ofNat o)), .val (.int (Int32.ofNat len)), .unset, .unset, .unset] [])) := entry rfl
  have c2 : Steps p.tables e below (s₁.setTop (entryFrame m #[.ref b, .int (Int32.ofNat o), .int (Int32.ofNat len)] 6)) (s₁.setTop (mkF m 1 #[.val (.ref b), .val (.int (Int32.ofNat o)), .val (.int (Int32.ofNat len)), .unset, .unset, .unset] [.int (Int32.ofNat len)])) := c1.trans (by
    refine XS.iloadN X0.here hexec rfl (hb hbytes d0) rfl ?_
    exact Steps.refl _)
  obtain ⟨T3, B3, X3, ba3, bs3, bv3, bh3, bf3, st3⟩ := X0.anew hexec (atype := .byte) (wk W (.arrayClass .byte)) rfl (by show len * 1 ≤ _; omega) (by omega) (g := (mkF m 1 #[.val (.ref b), .val (.int (Int32.ofNat o)), .val (.int (Int32.ofNat len)), .unset, .unset, .unset] [.int (Int32.ofNat len)])) rfl (hb hbytes d1) (rest := []) rfl (Nat.le_refl _) (by show 0 + len ≤ len; omega)
  rw [hh0] at ba3 st3
  have kp3 : XT.Kept s T3 := (XT.Kept.of_eq hh0).push bh3
  have hA3 := hA.keep X3.warmed.alike (kp3 _ _ hA.1.1)
  have hne : b ≠ s.heap.size := hA.1.ne
  have c4 : Steps p.tables e below (s₁.setTop (entryFrame m #[.ref b, .int (Int32.ofNat o), .int (Int32.ofNat len)] 6)) (T3.setTop (mkF m 3 #[.val (.ref b), .val (.int (Int32.ofNat o)), .val (.int (Int32.ofNat len)), .unset, .unset, .unset] [.ref s.heap.size])) := c2.trans (st3 _ (Steps.refl _))
  have c5 : Steps p.tables e below (s₁.setTop (entryFrame m #[.ref b, .int (Int32.ofNat o), .int (Int32.ofNat len)] 6)) (T3.setTop (mkF m 9 #[.val (.ref b), .val (.int (Int32.ofNat o)), .val (.int (Int32.ofNat len)), .val (.ref s.heap.size), .unset, .unset] [.int (Int32.ofNat len), .int 0, .ref s.heap.size, .int (Int32.ofNat o), .ref b])) := c4.trans (by
    refine XS.astoreN X3.here hexec rfl (hb hbytes d3) rfl rfl rfl ?_
    refine XS.aloadN X3.here hexec rfl (hb hbytes d4) rfl rfl ?_
    refine XS.iloadN X3.here hexec rfl (hb hbytes d5) rfl ?_
    refine XS.aloadN X3.here hexec rfl (hb hbytes d6) rfl rfl ?_
    refine iconstV X3.here hexec rfl 0 (hb hbytes d7) (by decide) ?_
    refine XS.iloadN X3.here hexec rfl (hb hbytes d8) rfl ?_
    exact Steps.refl _)
  obtain ⟨v6, T6, X6, E6, g6⟩ := X3.callS hexec (Cmp5.law l b A s.heap.size B3 o 0 len) hown (wks W (staticW U16 115 Cmp5.yN)) (wk W Cmp5.tab) (W := 0) (Nat.le_of_ble_eq_true rfl) (Nat.le_of_ble_eq_true rfl) (Nat.le_refl _) (by show 0 + len + 0 ≤ len; omega) (g := (mkF m 9 #[.val (.ref b), .val (.int (Int32.ofNat o)), .val (.int (Int32.ofNat len)), .val (.ref s.heap.size), .unset, .unset] [.int (Int32.ofNat len), .int (Int32.ofNat 0), .ref s.heap.size, .int (Int32.ofNat o), .ref b])) rfl (by rw [hml]; rfl) c5 (argsL := [.ref b, .int (Int32.ofNat o), .ref s.heap.size, .int (Int32.ofNat 0), .int (Int32.ofNat len)]) (rest := []) rfl rfl (by show 2 * 0 + 0 ≤ _; decide) (hb hbytes d9) (⟨rfl, hA3, ba3, hne, l1, by rw [bs3]; simp, hp⟩)
  obtain ⟨rfl, B6, p6, f6⟩ := E6
  have c7 : Steps p.tables e below (s₁.setTop (entryFrame m #[.ref b, .int (Int32.ofNat o), .int (Int32.ofNat len)] 6)) (T6.setTop (mkF m 12 #[.val (.ref b), .val (.int (Int32.ofNat o)), .val (.int (Int32.ofNat len)), .val (.ref s.heap.size), .unset, .unset] [.int (Int32.ofNat len)])) := g6
  have c8 : Steps p.tables e below (s₁.setTop (entryFrame m #[.ref b, .int (Int32.ofNat o), .int (Int32.ofNat len)] 6)) (T6.setTop (mkF m 58 #[.val (.ref b), .val (.int (Int32.ofNat o)), .val (.int (Int32.ofNat len)), .val (.ref s.heap.size), .val (.int (Int32.ofNat len)), .unset] [.ref s.heap.size])) := c7.trans (by
    refine XS.istore X6.here hexec rfl (hb hbytes d12) rfl rfl ?_
    refine XS.iload X6.here hexec rfl (hb hbytes d14) rfl ?_
    refine XS.iloadN X6.here hexec rfl (hb hbytes d16) rfl ?_
    refine XS.icmpYes X6.here hexec rfl (pc0 := 17) rfl (hb hbytes d17) rfl (ii_eq_t rfl) (by decide) rfl ?_
    refine XS.aloadN X6.here hexec rfl (hb hbytes d57) rfl rfl ?_
    exact Steps.refl _)
  have X8 := X6.wide (L' := []) (cells' := 1) (slots' := len) (fun x hx hlt => by
    simp only [List.nil_append, copyLocs, List.mem_map, List.mem_range] at hx
    obtain ⟨i, -, rfl⟩ := hx
    exact absurd hlt (Nat.lt_irrefl _)) (Nat.le_refl _) (by omega)
  exact ⟨T6, some (.ref s.heap.size), _, _, _, X8, rfl, rfl, rfl, (fun h => by cases h), ⟨⟨rfl, B6, ba3.like (X3.warmed.alike.symm.trans X6.warmed.alike) p6.1 f6.1 f6.2.1 f6.2.2.1, f6.2.1.trans bv3, by rw [X6.warmed.alike.findClass, f6.1]; exact bf3, by rw [f6.2.2.1, bs3]; simp, fun j hj => by rw [f6.2.2.2 j, if_pos (by omega)]; rfl, kp3.put p6 (Nat.le_refl _)⟩, by rw [p6.2.2, bh3, hh0]; simp⟩, fun fs hl => c8.trans (X8.areturnOut hexec rfl hret rfl (hb hbytes d58) hl)⟩
end Cmp3
namespace CodL
def yN : MethodName := ⟨"java/lang/StringUTF16", "coderFromArrayLen", "([BI)B"⟩
abbrev yB : ByteArray := jdk_52_method_15_code
theorem d0 : decode yB 0 = .ok (.iload_n 1, 1) := by decide +kernel
theorem d1 : decode yB 1 = .ok (.aload_n 0, 1) := by decide +kernel
theorem d2 : decode yB 2 = .ok (.arraylength, 1) := by decide +kernel
theorem d3 : decode yB 3 = .ok (.isub, 1) := by decide +kernel
theorem d4 : decode yB 4 = .ok (.bipush 31, 2) := by decide +kernel
theorem d6 : decode yB 6 = .ok (.iushr, 1) := by decide +kernel
theorem d7 : decode yB 7 = .ok (.i2b, 1) := by decide +kernel
theorem d8 : decode yB 8 = .ok (.ireturn, 1) := by decide +kernel
def site : List Cond := []
def tab : Cond := tabOf yN yB 2 (some .byte) site
def P (d : Addr) (B : Cell) (args : Array Value) (s : State) : Prop := args = #[.ref d, .int (Int32.ofNat B.slots.size)] ∧ Arr .byte d B s
def E (r : Option Value) (s u : State) : Prop := XT.PureE (some (.int 0)) r s u
/-- an array as long as the number of chars: LATIN1 -/
theorem law (l : Launch) (d : Addr) (B : Cell) : Law l yN 2 2 0 0 yB 2 (some .byte) site (P d B) E [] 0 0 := by
  refine Law.of_walk (plainFor_of_name (by decide +kernel)) (by decide +kernel) (by decide +kernel) (by decide) (fun _ _ h => by rw [h.1]; rfl) (fun _ U U' hal hh h => ⟨h.1, h.2.mv hal hh⟩) (fun r U U' V V' h1 hal h2 h => XT.PureE.mv r U U' V V' h1 hal h2 h) ?_
  intro p e s m args below meth c s₁ X0 hexec hbytes hml hret hlk hnm hown hh0 W hP
  obtain ⟨rfl, hB⟩ := hP
  have hB0 := hB.mv X0.warmed.alike hh0
  have c1 : Steps p.tables e below (s₁.setTop (entryFrame m #[.ref d, .int (Int32.ofNat B.slots.size)] 2)) (s₁.setTop (mkF m 0 #[.val (.ref d), .val (.int (Int32.ofNat B.slots.size))] [])) := entry rfl
  have c2 : Steps p.tables e below (s₁.setTop (entryFrame m #[.ref d, .int (Int32.ofNat B.slots.size)] 2)) (s₁.setTop (mkF m 2 #[.val (.ref d), .val (.int (Int32.ofNat B.slots.size))] [.ref d, .int (Int32.ofNat B.slots.size)])) := c1.trans (by
    refine XS.iloadN X0.here hexec rfl (hb hbytes d0) rfl ?_
    refine XS.aloadN X0.here hexec rfl (hb hbytes d1) rfl rfl ?_
    exact Steps.refl _)
  have c3 : Steps p.tables e below (s₁.setTop (entryFrame m #[.ref d, .int (Int32.ofNat B.slots.size)] 2)) (s₁.setTop (mkF m 8 #[.val (.ref d), .val (.int (Int32.ofNat B.slots.size))] [.int (lo8 (ushr (Int32.ofNat B.slots.size - Int32.ofNat B.slots.size) 31))])) := c2.trans (by
    refine X0.alen hexec hB0 rfl rfl (hb hbytes d2) ?_
    refine XS.isub X0.here hexec rfl (hb hbytes d3) rfl ?_
    refine bipushV X0.here hexec rfl 31 (hb hbytes d4) (by decide) ?_
    refine iushr X0.here hexec rfl (hb hbytes d6) rfl ?_
    refine i2b X0.here hexec rfl (hb hbytes d7) rfl ?_
    exact Steps.refl _)
  have e0 : lo8 (ushr (Int32.ofNat B.slots.size - Int32.ofNat B.slots.size) 31) = 0 := by rw [Int32.sub_self]; decide
  rw [e0] at c3
  exact ⟨s₁, some (.int 0), _, _, _, X0, rfl, rfl, rfl, (fun h => by cases h), ⟨rfl, hh0⟩, fun fs hl => c3.trans (X0.ireturnOut hexec hret rfl (Or.inr (Or.inr (Or.inl rfl))) (hb hbytes d8) hl)⟩
end CodL
/-- the String at a is Latin-1 over a new byte[] (the heap's one new cell): the low bytes of the len chars of A from o on; every cell but a is kept -/
def Got (a : Addr) (D : Cell) (fV fC : Field) (A : Cell) (o len : Nat) (r : Option Value) (s u : State) : Prop := r = none ∧ ∃ D' V : Cell, Blank "java/lang/String" a D' u ∧ Same D D' [fV.slot, fC.slot] ∧ D'.slots[fV.slot]? = some (.ref s.heap.size) ∧ D'.slots[fC.slot]? = some (.int 0) ∧ Arr .byte s.heap.size V u ∧ V.vm = .none ∧ u.vm.findClass "[B" = some V.cls ∧ V.slots.size = len ∧ (∀ j, j < len → V.slots[j]? = some (.int (lo8 (cv A (o + j))))) ∧ (∀ (y : Addr) (c : Cell), y ≠ a → s.heap[y]? = some c → u.heap[y]? = some c) ∧ u.heap.size = s.heap.size + 1
theorem Got.mv {a : Addr} {D A : Cell} {fV fC : Field} {o len : Nat} : ∀ r (U U' V V' : State), U'.heap = U.heap → V.vm.Alike V'.vm → V'.heap = V.heap → Got a D fV fC A o len r U V → Got a D fV fC A o len r U' V' :=
  fun r U U' V V' h1 hal h2 ⟨e0, D', X, a1, a2, a3, a4, a5, a6, a7, a8, a9, a10, a11⟩ => ⟨e0, D', X, a1.mv hal h2, a2, by rw [h1]; exact a3, a4, by rw [h1]; exact a5.mv hal h2, a6, by rw [hal.findClass]; exact a7, a8, a9, by rw [h1, h2]; exact a10, by rw [h1, h2]; exact a11⟩
namespace New4
def yN : MethodName := ⟨"java/lang/String", "<init>", "([CIILjava/lang/Void;)V"⟩
abbrev yB : ByteArray := jdk_42_method_149_code
theorem d0 : decode yB 0 = .ok (.aload_n 0, 1) := by decide +kernel
theorem d1 : decode yB 1 = .ok (.invokespecial 1, 3) := by decide +kernel
theorem d4 : decode yB 4 = .ok (.iload_n 3, 1) := by decide +kernel
theorem d5 : decode yB 5 = .ok (.ifCond (.ne) 22, 3) := by decide +kernel
theorem d27 : decode yB 27 = .ok (.getstatic 38, 3) := by decide +kernel
theorem d30 : decode yB 30 = .ok (.ifCond (.eq) 28, 3) := by decide +kernel
theorem d33 : decode yB 33 = .ok (.aload_n 1, 1) := by decide +kernel
theorem d34 : decode yB 34 = .ok (.iload_n 2, 1) := by decide +kernel
theorem d35 : decode yB 35 = .ok (.iload_n 3, 1) := by decide +kernel
theorem d36 : decode yB 36 = .ok (.invokestatic 177, 3) := by decide +kernel
theorem d39 : decode yB 39 = .ok (.astore 5, 2) := by decide +kernel
theorem d41 : decode yB 41 = .ok (.aload_n 0, 1) := by decide +kernel
theorem d42 : decode yB 42 = .ok (.aload 5, 2) := by decide +kernel
theorem d44 : decode yB 44 = .ok (.iload_n 3, 1) := by decide +kernel
theorem d45 : decode yB 45 = .ok (.invokestatic 47, 3) := by decide +kernel
theorem d48 : decode yB 48 = .ok (.putfield 15, 3) := by decide +kernel
theorem d51 : decode yB 51 = .ok (.aload_n 0, 1) := by decide +kernel
theorem d52 : decode yB 52 = .ok (.aload 5, 2) := by decide +kernel
theorem d54 : decode yB 54 = .ok (.putfield 9, 3) := by decide +kernel
theorem d57 : decode yB 57 = .ok (.return_, 1) := by decide +kernel
def site : List Cond := [.fieldLink "java/lang/String" 38 "java/lang/String" "COMPACT_STRINGS" "Z", Cmp3.tab, CodL.tab, .laysFinal "java/lang/String" "java/lang/String" "value" "[B", .fieldLink "java/lang/String" 9 "java/lang/String" "value" "[B", .laysFinal "java/lang/String" "java/lang/String" "coder" "B", .fieldLink "java/lang/String" 15 "java/lang/String" "coder" "B"] ++ objW "java/lang/String" 1 ++ staticW "java/lang/String" 177 Cmp3.yN ++ staticW "java/lang/String" 47 CodL.yN
def tab : Cond := tabOf yN yB 6 none site
def P (a : Addr) (D : Cell) (fV fC : Field) (b : Addr) (A : Cell) (z : Int32) (o len : Nat) (args : Array Value) (s : State) : Prop := args = #[.ref a, .ref b, .int (Int32.ofNat o), .int (Int32.ofNat len), .null] ∧ Blank "java/lang/String" a D s ∧ Found "java/lang/String" "value" "[B" fV s ∧ Found "java/lang/String" "coder" "B" fC s ∧ Ch b A s ∧ StaticIs s "java/lang/String" "COMPACT_STRINGS" "Z" (.int z) ∧ ¬ z = 0 ∧ 0 < len ∧ o + len ≤ A.slots.size ∧ len ≤ 536870912 ∧ ∀ i, i < len → ¬ 255 < cv A (o + i)
def E (a : Addr) (D : Cell) (fV fC : Field) (A : Cell) (o len : Nat) (r : Option Value) (s u : State) : Prop := Got a D fV fC A o len r s u
/-- len > 0, no char of the range above 255: a Latin-1 String of their low bytes -/
theorem law (l : Launch) (a : Addr) (D : Cell) (fV fC : Field) (b : Addr) (A : Cell) (z : Int32) (o len : Nat) : Law l yN 5 4 2 35 yB 6 none site (P a D fV fC b A z o len) (E a D fV fC A o len) [⟨a, fC.slot⟩, ⟨a, fV.slot⟩] 1 len := by
  refine Law.of_walk (plainFor_of_name (by decide +kernel)) (by decide +kernel) (by decide +kernel) (by decide) (fun _ _ h => by rw [h.1]; rfl) (fun _ U U' hal hh h => ⟨h.1, h.2.1.mv hal hh, h.2.2.1.al hal, h.2.2.2.1.al hal, h.2.2.2.2.1.mv hal hh, h.2.2.2.2.2.1.there hal hh, h.2.2.2.2.2.2⟩) (fun r U U' V V' h1 hal h2 h => Got.mv r U U' V V' h1 hal h2 h) ?_
  intro p e s m args below meth c s₁ X0 hexec hbytes hml hret hlk hnm hown hh0 W hP
  obtain ⟨rfl, hB, f1, f2, hA, s1, hz, l0, l1, l2, hp⟩ := hP
  have a31 := hA.1.2.2.2
  have c1 : Steps p.tables e below (s₁.setTop (entryFrame m #[.ref a, .ref b, .int (Int32.ofNat o), .int (Int32.ofNat len), .null] 6)) (s₁.setTop (mkF m 0 #[.val (.ref a), .val (.ref b), .val (.int (Int32.ofNat o)), .val (.int (Int32.ofNat len)), .val .null, .unset] [])) := entry rfl
  have c2 : Steps p.tables e below (s₁.setTop (entryFrame m #[.ref a, .ref b, .int (Int32.ofNat o), .int (Int32.ofNat len), .null] 6)) (s₁.setTop (mkF m 1 #[.val (.ref a), .val (.ref b), .val (.int (Int32.ofNat o)), .val (.int (Int32.ofNat len)), .val .null, .unset] [.ref a])) := c1.trans (by
    refine XS.aloadN X0.here hexec rfl (hb hbytes d0) rfl rfl ?_
    exact Steps.refl _)
  obtain ⟨T3, X3, q3, st3⟩ := X0.oinit hexec hown (wks W (objW "java/lang/String" 1)) (g := (mkF m 1 #[.val (.ref a), .val (.ref b), .val (.int (Int32.ofNat o)), .val (.int (Int32.ofNat len)), .val .null, .unset] [.ref a])) rfl (by rw [hml]; rfl) (rest := []) rfl (hb hbytes d1) (W := 0) (by show 2 * 0 + 0 ≤ _; decide) (Nat.le_of_ble_eq_true rfl) (Nat.le_of_ble_eq_true rfl)
  have hh3 := q3.trans hh0
  have c4 : Steps p.tables e below (s₁.setTop (entryFrame m #[.ref a, .ref b, .int (Int32.ofNat o), .int (Int32.ofNat len), .null] 6)) (T3.setTop (mkF m 27 #[.val (.ref a), .val (.ref b), .val (.int (Int32.ofNat o)), .val (.int (Int32.ofNat len)), .val .null, .unset] [])) := (c2.trans (st3 _ (Steps.refl _))).trans (by
    refine XS.iloadN X3.here hexec rfl (hb hbytes d4) rfl ?_
    refine XS.ifYes X3.here hexec rfl (pc0 := 5) rfl (hb hbytes d5) rfl (i0_ne_t (nz32 (by omega) l0)) (by decide) rfl ?_
    exact Steps.refl _)
  obtain ⟨T5, X5, q5, st5⟩ := X3.sget hexec hown (wk W (.fieldLink "java/lang/String" 38 "java/lang/String" "COMPACT_STRINGS" "Z")) s1 (fun _ _ h => by rw [hh3]; exact h) (g := (mkF m 27 #[.val (.ref a), .val (.ref b), .val (.int (Int32.ofNat o)), .val (.int (Int32.ofNat len)), .val .null, .unset] [])) rfl (hb hbytes d27)
  have hh5 := q5.trans hh3
  have c6 : Steps p.tables e below (s₁.setTop (entryFrame m #[.ref a, .ref b, .int (Int32.ofNat o), .int (Int32.ofNat len), .null] 6)) (T5.setTop (mkF m 30 #[.val (.ref a), .val (.ref b), .val (.int (Int32.ofNat o)), .val (.int (Int32.ofNat len)), .val .null, .unset] [.int z])) := c4.trans (st5 _ (Steps.refl _))
  have c7 : Steps p.tables e below (s₁.setTop (entryFrame m #[.ref a, .ref b, .int (Int32.ofNat o), .int (Int32.ofNat len), .null] 6)) (T5.setTop (mkF m 36 #[.val (.ref a), .val (.ref b), .val (.int (Int32.ofNat o)), .val (.int (Int32.ofNat len)), .val .null, .unset] [.int (Int32.ofNat len), .int (Int32.ofNat o), .ref b])) := c6.trans (by
    refine XS.ifNo X5.here hexec rfl (hb hbytes d30) rfl (i0_eq_f hz) ?_
    refine XS.aloadN X5.here hexec rfl (hb hbytes d33) rfl rfl ?_
    refine XS.iloadN X5.here hexec rfl (hb hbytes d34) rfl ?_
    refine XS.iloadN X5.here hexec rfl (hb hbytes d35) rfl ?_
    exact Steps.refl _)
  obtain ⟨v8, T8, X8, E8, g8⟩ := X5.callS hexec (Cmp3.law l b A o len) hown (wks W (staticW "java/lang/String" 177 Cmp3.yN)) (wk W Cmp3.tab) (W := 0) (Nat.le_of_ble_eq_true rfl) (Nat.le_of_ble_eq_true rfl) (Nat.le_refl _) (by show 0 + len ≤ len; omega) (g := (mkF m 36 #[.val (.ref a), .val (.ref b), .val (.int (Int32.ofNat o)), .val (.int (Int32.ofNat len)), .val .null, .unset] [.int (Int32.ofNat len), .int (Int32.ofNat o), .ref b])) rfl (by rw [hml]; rfl) c7 (argsL := [.ref b, .int (Int32.ofNat o), .int (Int32.ofNat len)]) (rest := []) rfl rfl (by show 2 * 0 + 0 ≤ _; decide) (hb hbytes d36) (⟨rfl, hA.mv X5.warmed.alike hh5, l1, l2, hp⟩)
  obtain ⟨e8, z8⟩ := E8
  obtain ⟨rfl, N, n1, n2, n3, n4, n5, n6⟩ := NewArr.mv _ T5 s _ _ hh5.symm (Vm.Alike.refl _) rfl e8
  rw [hh5] at z8
  have hB1 := hB.keep X8.warmed.alike (n6 _ _ hB.1)
  have hne : s.heap.size ≠ a := (Nat.ne_of_lt (Array.getElem?_eq_some_iff.mp hB.1).1).symm
  have c9 : Steps p.tables e below (s₁.setTop (entryFrame m #[.ref a, .ref b, .int (Int32.ofNat o), .int (Int32.ofNat len), .null] 6)) (T8.setTop (mkF m 39 #[.val (.ref a), .val (.ref b), .val (.int (Int32.ofNat o)), .val (.int (Int32.ofNat len)), .val .null, .unset] [.ref s.heap.size])) := g8
  have c10 : Steps p.tables e below (s₁.setTop (entryFrame m #[.ref a, .ref b, .int (Int32.ofNat o), .int (Int32.ofNat len), .null] 6)) (T8.setTop (mkF m 45 #[.val (.ref a), .val (.ref b), .val (.int (Int32.ofNat o)), .val (.int (Int32.ofNat len)), .val .null, .val (.ref s.heap.size)] [.int (Int32.ofNat N.slots.size), .ref s.heap.size, .ref a])) := by
    have hc : Steps p.tables e below (s₁.setTop (entryFrame m #[.ref a, .ref b, .int (Int32.ofNat o), .int (Int32.ofNat len), .null] 6)) (T8.setTop (mkF m 45 #[.val (.ref a), .val (.ref b), .val (.int (Int32.ofNat o)), .val (.int (Int32.ofNat len)), .val .null, .val (.ref s.heap.size)] [.int (Int32.ofNat len), .ref s.heap.size, .ref a])) := c9.trans (by
      refine XS.astore X8.here hexec rfl (hb hbytes d39) rfl rfl rfl ?_
      refine XS.aloadN X8.here hexec rfl (hb hbytes d41) rfl rfl ?_
      refine XS.aload X8.here hexec rfl (hb hbytes d42) rfl rfl ?_
      refine XS.iloadN X8.here hexec rfl (hb hbytes d44) rfl ?_
      exact Steps.refl _)
    rw [n4]; exact hc
  obtain ⟨v11, T11, X11, E11, g11⟩ := X8.callS hexec (CodL.law l s.heap.size N) hown (wks W (staticW "java/lang/String" 47 CodL.yN)) (wk W CodL.tab) (W := 1) (Nat.le_of_ble_eq_true rfl) (Nat.le_of_ble_eq_true rfl) (Nat.le_refl _) (by show 0 + len + 0 ≤ len; omega) (g := (mkF m 45 #[.val (.ref a), .val (.ref b), .val (.int (Int32.ofNat o)), .val (.int (Int32.ofNat len)), .val .null, .val (.ref s.heap.size)] [.int (Int32.ofNat N.slots.size), .ref s.heap.size, .ref a])) rfl (by rw [hml]; rfl) c10 (argsL := [.ref s.heap.size, .int (Int32.ofNat N.slots.size)]) (rest := [.ref a]) rfl rfl (by show 2 * 0 + (1 + 0) ≤ _; decide) (hb hbytes d45) (⟨rfl, n1⟩)
  obtain ⟨rfl, q11⟩ := E11
  have hB11 := hB1.mv (X8.warmed.alike.symm.trans X11.warmed.alike) q11
  have c12 : Steps p.tables e below (s₁.setTop (entryFrame m #[.ref a, .ref b, .int (Int32.ofNat o), .int (Int32.ofNat len), .null] 6)) (T11.setTop (mkF m 48 #[.val (.ref a), .val (.ref b), .val (.int (Int32.ofNat o)), .val (.int (Int32.ofNat len)), .val .null, .val (.ref s.heap.size)] [.int 0, .ref a])) := g11
  obtain ⟨T13, X13, p13, bl13, sl13, st13⟩ := X11.finit hexec hown (wk W (.fieldLink "java/lang/String" 15 "java/lang/String" "coder" "B")) (Or.inr ⟨_, (wk W (.laysFinal "java/lang/String" "java/lang/String" "coder" "B"))⟩) (Or.inl ⟨rfl, hnm⟩) f2 (Or.inl rfl) hB11 (t := .byte) (by decide +kernel) rfl (g := (mkF m 48 #[.val (.ref a), .val (.ref b), .val (.int (Int32.ofNat o)), .val (.int (Int32.ofNat len)), .val .null, .val (.ref s.heap.size)] [.int 0, .ref a])) rfl (rest := []) rfl (hb hbytes d48)
  have c14 : Steps p.tables e below (s₁.setTop (entryFrame m #[.ref a, .ref b, .int (Int32.ofNat o), .int (Int32.ofNat len), .null] 6)) (T13.setTop (mkF m 54 #[.val (.ref a), .val (.ref b), .val (.int (Int32.ofNat o)), .val (.int (Int32.ofNat len)), .val .null, .val (.ref s.heap.size)] [.ref s.heap.size, .ref a])) := (c12.trans (st13 _ (Steps.refl _))).trans (by
    refine XS.aloadN X13.here hexec rfl (hb hbytes d51) rfl rfl ?_
    refine XS.aload X13.here hexec rfl (hb hbytes d52) rfl rfl ?_
    exact Steps.refl _)
  obtain ⟨T15, X15, p15, bl15, sl15, st15⟩ := X13.finit hexec hown (wk W (.fieldLink "java/lang/String" 9 "java/lang/String" "value" "[B")) (Or.inr ⟨_, (wk W (.laysFinal "java/lang/String" "java/lang/String" "value" "[B"))⟩) (Or.inl ⟨rfl, hnm⟩) f1 (Or.inl rfl) bl13 (t := (.array .byte)) (by decide +kernel) rfl (g := (mkF m 54 #[.val (.ref a), .val (.ref b), .val (.int (Int32.ofNat o)), .val (.int (Int32.ofNat len)), .val .null, .val (.ref s.heap.size)] [.ref s.heap.size, .ref a])) rfl (rest := []) rfl (hb hbytes d54)
  have c16 : Steps p.tables e below (s₁.setTop (entryFrame m #[.ref a, .ref b, .int (Int32.ofNat o), .int (Int32.ofNat len), .null] 6)) (T15.setTop (mkF m 57 #[.val (.ref a), .val (.ref b), .val (.int (Int32.ofNat o)), .val (.int (Int32.ofNat len)), .val .null, .val (.ref s.heap.size)] [])) := c14.trans (st15 _ (Steps.refl _))
  have ap := apart (Or.inr ⟨_, (wk W (.laysFinal "java/lang/String" "java/lang/String" "value" "[B"))⟩) (Or.inr ⟨_, (wk W (.laysFinal "java/lang/String" "java/lang/String" "coder" "B"))⟩) f1 f2 (t₁ := .array .byte) (t₂ := .byte) (by decide +kernel) (by decide +kernel) (by decide)
  have al := X8.warmed.alike.symm.trans X15.warmed.alike
  have n7 : T11.heap[s.heap.size]? = some N := by rw [q11]; exact n1.1
  exact ⟨T15, none, _, _, _, X15, by simp, rfl, by omega, (fun _ => rfl), ⟨rfl, _, N, bl15, ((Same.refl D _).set _ (by simp)).set _ (by simp), sl15, (Cell.slots_setSlot_ne _ ap).trans sl13, n1.keep al (p15.other hne (p13.other hne n7)), n2, by rw [al.findClass]; exact n3, n4, n5, fun y c h1 h2 => p15.other h1 (p13.other h1 (by rw [q11]; exact n6 y c h2)), by rw [p15.2.2, p13.2.2, q11]; exact z8⟩, fun fs hl => c16.trans (X15.returnOut hexec hret (hb hbytes d57) hl)⟩
end New4
namespace New1
def yN : MethodName := ⟨"java/lang/String", "<init>", "([C)V"⟩
abbrev yB : ByteArray := jdk_42_method_3_code
theorem d0 : decode yB 0 = .ok (.aload_n 0, 1) := by decide +kernel
theorem d1 : decode yB 1 = .ok (.aload_n 1, 1) := by decide +kernel
theorem d2 : decode yB 2 = .ok (.iconst 0, 1) := by decide +kernel
theorem d3 : decode yB 3 = .ok (.aload_n 1, 1) := by decide +kernel
theorem d4 : decode yB 4 = .ok (.arraylength, 1) := by decide +kernel
theorem d5 : decode yB 5 = .ok (.aconst_null, 1) := by decide +kernel
theorem d6 : decode yB 6 = .ok (.invokespecial 27, 3) := by decide +kernel
theorem d9 : decode yB 9 = .ok (.return_, 1) := by decide +kernel
def site : List Cond := [New4.tab] ++ initW "java/lang/String" 27 New4.yN
def tab : Cond := tabOf yN yB 2 none site
def P (a : Addr) (D : Cell) (fV fC : Field) (b : Addr) (A : Cell) (z : Int32) (args : Array Value) (s : State) : Prop := args = #[.ref a, .ref b] ∧ Blank "java/lang/String" a D s ∧ Found "java/lang/String" "value" "[B" fV s ∧ Found "java/lang/String" "coder" "B" fC s ∧ Ch b A s ∧ StaticIs s "java/lang/String" "COMPACT_STRINGS" "Z" (.int z) ∧ ¬ z = 0 ∧ 0 < A.slots.size ∧ A.slots.size ≤ 536870912 ∧ ∀ i, i < A.slots.size → ¬ 255 < cv A i
def E (a : Addr) (D : Cell) (fV fC : Field) (A : Cell) (r : Option Value) (s u : State) : Prop := Got a D fV fC A 0 A.slots.size r s u
/-- new String(chars), not empty, no char above 255: a Latin-1 String of their low bytes -/
theorem law (l : Launch) (a : Addr) (D : Cell) (fV fC : Field) (b : Addr) (A : Cell) (z : Int32) : Law l yN 2 1 3 52 yB 2 none site (P a D fV fC b A z) (E a D fV fC A) [⟨a, fC.slot⟩, ⟨a, fV.slot⟩] 1 A.slots.size := by
  refine Law.of_walk (plainFor_of_name (by decide +kernel)) (by decide +kernel) (by decide +kernel) (by decide) (fun _ _ h => by rw [h.1]; rfl) (fun _ U U' hal hh h => ⟨h.1, h.2.1.mv hal hh, h.2.2.1.al hal, h.2.2.2.1.al hal, h.2.2.2.2.1.mv hal hh, h.2.2.2.2.2.1.there hal hh, h.2.2.2.2.2.2⟩) (fun r U U' V V' h1 hal h2 h => Got.mv r U U' V V' h1 hal h2 h) ?_
  intro p e s m args below meth c s₁ X0 hexec hbytes hml hret hlk hnm hown hh0 W hP
  obtain ⟨rfl, hB, f1, f2, hA, s1, hz, l0, l2, hp⟩ := hP
  have c1 : Steps p.tables e below (s₁.setTop (entryFrame m #[.ref a, .ref b] 2)) (s₁.setTop (mkF m 0 #[.val (.ref a), .val (.ref b)] [])) := entry rfl
  have c2 : Steps p.tables e below (s₁.setTop (entryFrame m #[.ref a, .ref b] 2)) (s₁.setTop (mkF m 6 #[.val (.ref a), .val (.ref b)] [.null, .int (Int32.ofNat A.slots.size), .int 0, .ref b, .ref a])) := c1.trans (by
    refine XS.aloadN X0.here hexec rfl (hb hbytes d0) rfl rfl ?_
    refine XS.aloadN X0.here hexec rfl (hb hbytes d1) rfl rfl ?_
    refine iconstV X0.here hexec rfl 0 (hb hbytes d2) (by decide) ?_
    refine XS.aloadN X0.here hexec rfl (hb hbytes d3) rfl rfl ?_
    refine X0.alen hexec (hA.1.mv X0.warmed.alike hh0) rfl rfl (hb hbytes d4) ?_
    refine XS.aconstNull X0.here hexec rfl (hb hbytes d5) ?_
    exact Steps.refl _)
  obtain ⟨v3, T3, X3, E3, g3⟩ := X0.callN hexec (New4.law l a D fV fC b A z 0 A.slots.size) rfl hown (wks W (initW "java/lang/String" 27 New4.yN)) (W New4.tab (by simp only [site, List.mem_cons, List.mem_append, true_or, or_true])) (W := 0) (Nat.le_of_ble_eq_true rfl) (Nat.le_of_ble_eq_true rfl) (Nat.le_refl _) (by show 0 + A.slots.size ≤ A.slots.size; omega) (g := (mkF m 6 #[.val (.ref a), .val (.ref b)] [.null, .int (Int32.ofNat A.slots.size), .int (Int32.ofNat 0), .ref b, .ref a])) rfl (by rw [hml]; rfl) c2 (argsL := [.ref b, .int (Int32.ofNat 0), .int (Int32.ofNat A.slots.size), .null]) (rest := []) rfl rfl (by show 2 * 0 + 0 ≤ _; decide) (hb hbytes d6) (⟨rfl, hB.mv X0.warmed.alike hh0, f1.al X0.warmed.alike, f2.al X0.warmed.alike, hA.mv X0.warmed.alike hh0, s1.there X0.warmed.alike hh0, hz, l0, by omega, l2, fun i hi => by rw [Nat.zero_add]; exact hp i hi⟩)
  have e0 := Got.mv _ s₁ s _ _ hh0.symm (Vm.Alike.refl _) rfl E3
  obtain rfl := e0.1
  have c4 : Steps p.tables e below (s₁.setTop (entryFrame m #[.ref a, .ref b] 2)) (T3.setTop (mkF m 9 #[.val (.ref a), .val (.ref b)] [])) := g3
  exact ⟨T3, none, _, _, _, X3, by simp, rfl, by omega, (fun _ => rfl), e0, fun fs hl => c4.trans (X3.returnOut hexec hret (hb hbytes d9) hl)⟩
theorem pays {l : Launch} {R : Room} {p : Program} {e : Env} {below : List Frame} {s : State} {sargs : Array Value} {len W : Nat} (a : Addr) (D : Cell) (fV fC : Field) (b : Addr) (A : Cell) (z : Int32) (htab : tab.before sargs s = true) (hfr : 4 ≤ R.frames) (hlo : W + 65 ≤ R.locals) :
    Back l R p e below s sargs yN len W (fun A₁ a₁ => A₁.cells + 1 ≤ R.cells ∧ A₁.slots + A.slots.size ≤ R.slots ∧ P a D fV fC b A z a₁ A₁.U) (fun A₁ _ v₁ B₁ => E a D fV fC A v₁ A₁.U B₁.U ∧ B₁.locs = A₁.locs ++ [⟨a, fC.slot⟩, ⟨a, fV.slot⟩] ∧ B₁.cells = A₁.cells + 1 ∧ B₁.slots = A₁.slots + A.slots.size) :=
  (law l a D fV fC b A z).pays htab hfr (by omega)
end New1
end StrChars
namespace StrChars.Road
open Jvm Sem ClassFile Op Lib Jvm.Stand Jvm.Free Jvm.Free.XT
open Jvm.Lib.Cold (StaticIs)
abbrev ST : String := "java/lang/String"
/-- every table word that New1's law asks, flat -/
abbrev words : List Jvm.Cond := [.code New1.yN New1.yB 2 none, .initialized ST, .methodLink ST 27 New4.yN, .instanceMethod New4.yN,
  .code New4.yN New4.yB 6 none, .fieldLink ST 38 ST "COMPACT_STRINGS" "Z", .laysFinal ST ST "value" "[B", .fieldLink ST 9 ST "value" "[B", .laysFinal ST ST "coder" "B", .fieldLink ST 15 ST "coder" "B",
  .methodLink ST 1 Lib.objectInit, .instanceMethod Lib.objectInit, .code Lib.objectInit ⟨#[0xb1]⟩ 1 none, .methodLink ST 177 Cmp3.yN, .static Cmp3.yN, .methodLink ST 47 CodL.yN, .static CodL.yN,
  .code Cmp3.yN Cmp3.yB 6 (some (.array .byte)), .initialized U16, .arrayClass .byte, .methodLink U16 115 Cmp5.yN, .static Cmp5.yN, .code Cmp5.yN Cmp5.yB 7 (some .int), .code CodL.yN CodL.yB 2 (some .byte)]
theorem tab_of {a : Array Value} {s : State} (h : ∀ w ∈ words, w.before a s = true) : New1.tab.before a s = true := by
  have h5 : Cmp5.tab.before a s = true := unparts (wk h (.code Cmp5.yN Cmp5.yB 7 (some .int))) (wks h (.initialized Cmp5.yN.cls :: Cmp5.site))
  have hc : CodL.tab.before a s = true := unparts (wk h (.code CodL.yN CodL.yB 2 (some .byte))) (wks h (.initialized CodL.yN.cls :: CodL.site))
  have q5 : ∀ w ∈ Cmp5.tab :: words, w.before a s = true := fun w hw => (List.mem_cons.mp hw).elim (fun e => e ▸ h5) (h w)
  have h3 : Cmp3.tab.before a s = true := unparts (wk q5 (.code Cmp3.yN Cmp3.yB 6 (some (.array .byte)))) (wks q5 (.initialized Cmp3.yN.cls :: Cmp3.site))
  have q3 : ∀ w ∈ Cmp3.tab :: CodL.tab :: words, w.before a s = true := fun w hw => (List.mem_cons.mp hw).elim (fun e => e ▸ h3) fun hw => (List.mem_cons.mp hw).elim (fun e => e ▸ hc) (h w)
  have h4 : New4.tab.before a s = true := unparts (wk q3 (.code New4.yN New4.yB 6 none)) (wks q3 (.initialized New4.yN.cls :: New4.site))
  have q4 : ∀ w ∈ New4.tab :: words, w.before a s = true := fun w hw => (List.mem_cons.mp hw).elim (fun e => e ▸ h4) (h w)
  exact unparts (wk q4 (.code New1.yN New1.yB 2 none)) (wks q4 (.initialized New1.yN.cls :: New1.site))
/-- the words ride from the start Z to the walk's own state -/
theorem moved {Z s : State} {a0 args : Array Value} (hZ : Z.Warmed39 s.vm) (hw : ∀ d ∈ words, d.before a0 Z = true) : ∀ d ∈ words, d.before args s = true := fun d hd => by
  have q := hw d hd
  have t : ∀ d ∈ words, d = .arrayClass .byte ∨ (d.onTables && d.keepsFace) = true := by decide +kernel
  rcases t d hd with rfl | t
  · exact RoadKit.mvA hZ q
  · exact RoadKit.mv hZ q t
/-- WHAT COMES BACK, over the tables of the start Z: h the heap at the call, h' behind it -/
def Q (Z : State) (x : Addr) (A : Cell) (h : Heap) (v : Option Value) (h' : Heap) (L : List Loc) : Prop := v = none ∧ (∀ y ∈ L, y.base = x) ∧ RoadKit.Keep h h' [x] ∧ h'.size = h.size + 1 ∧ RoadKit.Exa Z h' x ST ∧ RoadKit.Fld Z h' x ST "value" "[B" (.ref h.size) ∧ RoadKit.Fld Z h' x ST "coder" "B" (.int 0) ∧
  (∃ V : Cell, RoadKit.Arr Z h' h.size V .byte ∧ V.vm = .none ∧ Z.vm.findClass "[B" = some V.cls ∧ V.slots.size = A.slots.size ∧ ∀ j, j < A.slots.size → V.slots[j]? = some (.int (lo8 (cv A j)))) ∧
  ∀ (O n d : String) (w : Value), RoadKit.Fld Z h x O n d w → RoadKit.slotOf Z O n d ≠ RoadKit.slotOf Z ST "value" "[B" → RoadKit.slotOf Z O n d ≠ RoadKit.slotOf Z ST "coder" "B" → RoadKit.Fld Z h' x O n d w
/-- **new String(chars) AT A CALL, IN THE ROAD'S FORM**: for specialBack behind newO: x the fresh String, b the char[] with the cell A -/
theorem back {p : Program} {l : Launch} {e : Env} {R : Room} {s : State} {args : Array Value} {below : List Frame} {len W : Nat} {Z : State} {a0 : Array Value} {h : Heap} (hZ : Z.Warmed39 s.vm) (hw : ∀ d ∈ words, d.before a0 Z = true) {kI : Nat} (wi : (Jvm.Cond.instantiable ST kI).before a0 Z = true)
    {x b : Addr} {A : Cell} {z : Int32} {v0 c0 : Value} (E : RoadKit.Exa Z h x ST) (V : RoadKit.Fld Z h x ST "value" "[B" v0) (C : RoadKit.Fld Z h x ST "coder" "B" c0) (K : RoadKit.Arr Z h b A .char) (hty : Typed .char A) (S : RoadKit.Sta Z h ST "COMPACT_STRINGS" "Z" (.int z)) (hz : ¬ z = 0)
    (l0 : 0 < A.slots.size) (l2 : A.slots.size ≤ 536870912) (hp : ∀ i, i < A.slots.size → ¬ 255 < cv A i) (hfr : 4 ≤ R.frames) (hlo : W + 65 ≤ R.locals) :
    Back l R p e below s args New1.yN len W (fun P a => a = #[.ref x, .ref b] ∧ P.U.heap = h ∧ P.cells + 1 ≤ R.cells ∧ P.slots + A.slots.size ≤ R.slots)
      (fun P _ v B => ∃ L, Q Z x A h v B.U.heap L ∧ B.locs = P.locs ++ L ∧ B.cells = P.cells + 1 ∧ B.slots = P.slots + A.slots.size) := by
  intro m meth c P g ig mk a X hg hsize hdg hW hn hp'
  obtain ⟨rfl, rfl, r1, r2⟩ := hp'
  have al : Z.vm.Alike P.U.vm := hZ.alike.trans X.warmed.alike
  obtain ⟨D, cfV, kV, iV, fV, hD, gV, stV, knV, obV, asV, slV⟩ := id V
  obtain ⟨D', cfC, kC, iC, fC, hD', gC, stC, -, -, asC, slC⟩ := id C
  cases hD.symm.trans hD'
  obtain ⟨D2, kD, e1, e2, e3, e4, e5⟩ := id E
  cases hD.symm.trans e1
  obtain ⟨c2, k2, i1, i2, i3, -⟩ := Cond.instantiable_spec wi
  cases e2.symm.trans i1
  cases e3.symm.trans i2
  obtain ⟨kU, u1, u2⟩ := al.2.2 _ _ e3
  have hB : Blank ST x D P.U := ⟨hD, ⟨knV, fun q hq => by rw [hq] at obV; cases obV⟩, by rw [al.findClass]; exact e2, kU, u1, by rw [u2]; exact i3, by rw [u2]; exact e5 i3⟩
  have F1 : Found ST "value" "[B" fV P.U := ⟨SBG.found_only al ⟨cfV, kV, iV, gV⟩, stV⟩
  have F2 : Found ST "coder" "B" fC P.U := ⟨SBG.found_only al ⟨cfC, kC, iC, gC⟩, stC⟩
  have hA : Ch b A P.U := ⟨⟨K.1, State.isArrayOf_alike al K.2.1, K.2.2, by omega⟩, hty⟩
  have hS : StaticIs P.U ST "COMPACT_STRINGS" "Z" (.int z) := by
    obtain ⟨cfS, iS, kS, fS, st, cS, t1, t2, t3, t4, t5, t6, t7⟩ := S
    exact StaticIs.there (s := { Z with heap := P.U.heap }) ⟨cfS, iS, kS, fS, st, cS, t1, t2, t3, t4, t5, (fun q => by rw [q] at t6; cases t6), t7⟩ al rfl
  obtain ⟨v, B, X', ⟨⟨hv, E', V', q1, q2, q3, q4, q5, q6, q7, q8, q9, q10, q11⟩, hl, hc, hs⟩, st⟩ := New1.pays x D fV fC b A z (tab_of (moved hZ hw)) hfr hlo m meth c P g ig mk _ X hg hsize hdg hW hn ⟨r1, r2, rfl, hB, F1, F2, hA, hS, hz, l0, l2, hp⟩
  have al' : Z.vm.Alike B.U.vm := hZ.alike.trans X'.warmed.alike
  have hsz : E'.slots.size = D.slots.size := by
    obtain ⟨-, -, -, kB, w1, w2, w3⟩ := q1
    obtain ⟨kB', y1, y2⟩ := al'.2.2 _ _ e3
    rw [q2.2.1] at w1
    cases w1.symm.trans y1
    rw [w3, e5 i3, y2]
  refine ⟨v, B, X', ⟨_, ⟨hv, ?_, ⟨by omega, fun y cy hy hn' => q10 y cy (by simpa using hn') hy, fun y cy hy => ?_⟩, q11, ⟨E', _, q1.1, by rw [q2.2.1]; exact e2, by rw [q2.2.1]; exact e3, by rw [q2.1]; exact obV, fun _ => by rw [hsz]; exact e5 i3⟩,
    ⟨E', cfV, kV, iV, fV, q1.1, gV, stV, by rw [q2.1]; exact knV, by rw [q2.1]; exact obV, by rw [q2.2.1]; exact asV, q3⟩, ⟨E', cfC, kC, iC, fC, q1.1, gC, stC, by rw [q2.1]; exact knV, by rw [q2.1]; exact obV, by rw [q2.2.1]; exact asC, q4⟩,
    ⟨V', ⟨q5.1, State.isArrayOf_alike al'.symm q5.2.1, q5.2.2.1⟩, q6, by rw [← al'.findClass]; exact q7, q8, fun j hj => by have := q9 j hj; rwa [Nat.zero_add] at this⟩, fun O n d w F n1 n2 => ?_⟩, hl, hc, hs⟩, st⟩
  · intro y hy
    simp only [List.mem_cons, List.not_mem_nil, or_false] at hy
    rcases hy with rfl | rfl <;> rfl
  · by_cases q : y = x
    · subst q
      cases hD.symm.trans hy
      exact ⟨E', q1.1, q2.2.1, q2.1, hsz⟩
    · exact ⟨cy, q10 y cy q hy, rfl, rfl, rfl⟩
  · obtain ⟨D3, cf, k, i, f, g1, g2, g3, g4, g5, g6, g7⟩ := F
    cases hD.symm.trans g1
    simp only [RoadKit.slotOf, g2, gV, gC, Option.map_some, Option.getD_some] at n1 n2
    exact ⟨E', cf, k, i, f, q1.1, g2, g3, by rw [q2.1]; exact g4, by rw [q2.1]; exact g5, by rw [q2.2.1]; exact g6, by rw [q2.2.2 f.slot (by simp [n1, n2])]; exact g7⟩
end StrChars.Road
namespace StrChars.Road
open Jvm Sem ClassFile Op Lib Jvm.Stand Jvm.Free Jvm.Free.XT
/-- WHAT COMES BACK, the byte[] as a list of values -/
def QA (Z : State) (x : Addr) (zn : Int32) (cs : List Int32) (h : Heap) (v : Option Value) (h' : Heap) (L : List Loc) : Prop := v = none ∧ (∀ y ∈ L, y.base = x) ∧ RoadKit.Keep h h' [x] ∧ h'.size = h.size + 1 ∧ RoadKit.Exa Z h' x ST ∧ RoadKit.Fld Z h' x ST "value" "[B" (.ref h.size) ∧ RoadKit.Fld Z h' x ST "coder" "B" (.int 0) ∧
  (∃ kb, Z.vm.findClass "[B" = some kb ∧ RoadKit.Arv Z h' h.size kb .byte zn (cs.map fun c => .int (lo8 c)) (.int 0)) ∧
  ∀ (O n d : String) (w : Value), RoadKit.Fld Z h x O n d w → RoadKit.slotOf Z O n d ≠ RoadKit.slotOf Z ST "value" "[B" → RoadKit.slotOf Z O n d ≠ RoadKit.slotOf Z ST "coder" "B" → RoadKit.Fld Z h' x O n d w
/-- **new String(chars) AT A CALL, THE ARRAYS AS LISTS**: the char[] at b holds cs, not empty, no char above 255 -/
theorem backArv {p : Program} {l : Launch} {e : Env} {R : Room} {s : State} {args : Array Value} {below : List Frame} {len W : Nat} {Z : State} {a0 : Array Value} {h : Heap} (hZ : Z.Warmed39 s.vm) (hw : ∀ d ∈ words, d.before a0 Z = true) {kI : Nat} (wi : (Jvm.Cond.instantiable ST kI).before a0 Z = true)
    {x b : Addr} {k : ClassId} {zn z : Int32} {cs : List Int32} {dv v0 c0 : Value} (E : RoadKit.Exa Z h x ST) (V : RoadKit.Fld Z h x ST "value" "[B" v0) (C : RoadKit.Fld Z h x ST "coder" "B" c0) (K : RoadKit.Arv Z h b k .char zn (cs.map Value.int) dv) (S : RoadKit.Sta Z h ST "COMPACT_STRINGS" "Z" (.int z)) (hz : ¬ z = 0)
    (hlen : zn.toNatClampNeg = cs.length) (h0 : 0 < cs.length) (hbig : cs.length ≤ 536870912) (hall : ∀ c ∈ cs, ¬ 255 < c) (hfr : 4 ≤ R.frames) (hlo : W + 65 ≤ R.locals) :
    Back l R p e below s args New1.yN len W (fun P a => a = #[.ref x, .ref b] ∧ P.U.heap = h ∧ P.cells + 1 ≤ R.cells ∧ P.slots + cs.length ≤ R.slots)
      (fun P _ v B => ∃ L, QA Z x zn cs h v B.U.heap L ∧ B.locs = P.locs ++ L ∧ B.cells = P.cells + 1 ∧ B.slots = P.slots + cs.length) := by
  obtain ⟨A, K1, K2, K3, K4, K5, K6⟩ := K
  have e : A.slots.size = cs.length := K3.trans hlen
  have hat : ∀ (i : Nat) (hi : i < cs.length), A.slots[i]? = some (.int cs[i]) := fun i hi => by rw [K5 i (by omega)]; simp [List.getD_eq_getElem?_getD, hi]
  have hcv : ∀ (i : Nat) (hi : i < cs.length), cv A i = cs[i] := fun i hi => by unfold cv; rw [hat i hi]
  have hty : Typed .char A := fun i v hv => by
    have hi : i < A.slots.size := (Array.getElem?_eq_some_iff.mp hv).1
    have q := K5 i hi
    rw [hv] at q
    rw [Option.some.inj q]
    exact K6 i hi
  refine Back.mono (back hZ hw wi E V C K1 hty S hz (by omega) (by omega) (fun i hi => by rw [hcv i (by omega)]; exact hall _ (List.getElem_mem _)) hfr hlo) (fun P a hp => ⟨hp.1, hp.2.1, hp.2.2.1, by rw [e]; exact hp.2.2.2⟩) (fun P a v B hp hq => ?_)
  obtain ⟨L, ⟨q1, q2, q3, q4, q5, q6, q7, ⟨V', v1, v2, v3, v4, v5⟩, q9⟩, hl, hc, hs⟩ := hq
  refine ⟨L, ⟨q1, q2, q3, q4, q5, q6, q7, ⟨V'.cls, v3, V', v1, rfl, by rw [v4, e, hlen], K4, fun i hi => ?_, fun i hi => ?_⟩, q9⟩, hl, hc, by rw [hs, e]⟩
  · have hi' : i < cs.length := by omega
    rw [v5 i (by omega), hcv i hi']; simp [List.getD_eq_getElem?_getD, hi']
  · have hi' : i < cs.length := by omega
    simp only [List.getD_eq_getElem?_getD, List.getElem?_map, List.getElem?_eq_getElem hi', Option.map_some, Option.getD_some]
    exact fits_lo8 _
end StrChars.Road
namespace StrChars.Road
open Jvm Sem ClassFile Op Lib Jvm.Stand Jvm.Free Jvm.Free.XT
/-- WHAT COMES BACK, in the writer's own shape -/
def QV (Z : State) (x : Addr) (N : Int32) (bs : List Int32) (h : Heap) (n0 : Nat) (v : Option Value) (h' : Heap) (L : List Loc) : Prop := v = none ∧ RoadKit.Fr n0 L ∧ RoadKit.Keep h h' [x] ∧ RoadKit.Exa Z h' x ST ∧ RoadKit.Fld Z h' x ST "coder" "B" (.int 0) ∧
  ∃ (t : Addr) (kb : ClassId), n0 ≤ t ∧ h.size ≤ t ∧ ¬ t = x ∧ RoadKit.Fld Z h' x ST "value" "[B" (.ref t) ∧ RoadKit.Arv Z h' t kb .byte N (bs.map Value.int) (.int 0)
/-- **new String(chars) AT A CALL, FOR THE WRITER**: a char[] of n known ints, each 0 to 255 -/
theorem backV {p : Program} {l : Launch} {e : Env} {R : Room} {s : State} {args : Array Value} {below : List Frame} {len W : Nat} {Z : State} {a0 : Array Value} {h : Heap} (hZ : Z.Warmed39 s.vm) (hw : ∀ d ∈ words, d.before a0 Z = true) {kI : Nat} (wi : (Jvm.Cond.instantiable ST kI).before a0 Z = true)
    {x b : Addr} {kC : ClassId} {cs bs : List Int32} {d v0 c0 : Value} {z N : Int32} {n n0 : Nat} (hx0 : n0 ≤ x) (hh0 : n0 ≤ h.size) (E : RoadKit.Exa Z h x ST) (V : RoadKit.Fld Z h x ST "value" "[B" v0) (C : RoadKit.Fld Z h x ST "coder" "B" c0) (K : RoadKit.Arv Z h b kC .char N (cs.map Value.int) d) (S : RoadKit.Sta Z h ST "COMPACT_STRINGS" "Z" (.int z)) (hz : ¬ z = 0)
    (hn : cs.length = n) (hN : N = Int32.ofNat n) (l0 : 0 < n) (l2 : n ≤ 4000) (hp : ∀ c ∈ cs, ¬ c < 0 ∧ ¬ (255 : Int32) < c) (hb : bs = cs.map (fun c => c.toInt8.toInt32)) (hfr : 4 ≤ R.frames) (hlo : W + 65 ≤ R.locals) :
    Back l R p e below s args (⟨"java/lang/String", "<init>", "([C)V"⟩ : MethodName) len W (fun P a => a = #[.ref x, .ref b] ∧ P.U.heap = h ∧ P.cells + 1 ≤ R.cells ∧ P.slots + n ≤ R.slots)
      (fun P _ v B => ∃ L, QV Z x N bs h n0 v B.U.heap L ∧ B.locs = P.locs ++ L ∧ B.cells = P.cells + 1 ∧ B.slots = P.slots + n) := by
  subst hn hN hb
  refine Back.mono (backArv hZ hw wi E V C K S hz (n32 (by omega)) l0 (by omega) (fun c hc => (hp c hc).2) hfr hlo) (fun P a hp => hp) (fun P a v B hp hq => ?_)
  obtain ⟨L, ⟨q1, q2, q3, q4, q5, q6, q7, ⟨kb, v1, v2⟩, q9⟩, hl, hc, hs⟩ := hq
  exact ⟨L, ⟨q1, fun y hy => by rw [q2 y hy]; exact hx0, q3, q5, q7, h.size, kb, hh0, Nat.le_refl _, Nat.ne_of_gt E.lt, q6, by rw [List.map_map]; exact v2⟩, hl, hc, hs⟩
end StrChars.Road
end Jvm.Pilot.@@N@@
namespace Jvm.Pilot.@@N@@
open Jvm Jvm.ClassFile Sem Op Lib Jvm.Free Jvm.Stand Jvm.LawKit Jvm.RoadKit Bundle Jvm.Pilot.@@N@@.Jvm.D
theorem own_cat {v : Value} (h : v.isRef = true) : v.category = 1 := by cases v <;> first | rfl | (simp [Value.isRef] at h)
theorem own_nar {v : Value} {t : FieldType} (ht : t.isReference = true) (h : v.isRef = true) : narrow t v = v := by
  rcases ref_cases h with rfl | ⟨a, rfl⟩ <;> cases t <;> first | rfl | (simp [FieldType.isReference] at ht)
theorem own_fits {v : Value} {t : FieldType} (ht : t.isReference = true) (h : v.isRef = true) : fits t v = true := by
  rcases ref_cases h with rfl | ⟨a, rfl⟩ <;> cases t <;> first | rfl | (simp [FieldType.isReference] at ht)
theorem own_store {l l' : Array Slot} {i : Nat} {v : Value} {o : Slot} (hold : l[i]? = some o) (ho : o = .unset ∨ ∃ w, o = .val w ∧ w.category = 1) (hv : v.category = 1) (e : l.setIfInBounds i (.val v) = l') : storeLocals l i v = some l' := by
  rw [Jvm.Free.XS.store1 hold ho hv, e]
def Glob (Z : State) (a0 : Array Value) (G1 : Int32) : Prop := (∀ d ∈ tables_1, d.before a0 Z = true) ∧ (Sta Z Z.heap "java/lang/String" "COMPACT_STRINGS" "Z" (.int G1)) ∧ (¬ (G1 = (0 : Int32)))
theorem own_hws {Z : State} {a0 : Array Value} (hw : ∀ d ∈ tables_1, d.before a0 Z = true) : ∀ d ∈ StrChars.Road.words, d.before a0 Z = true := fun d hd => hw d ((by decide +kernel : ∀ d ∈ StrChars.Road.words, d ∈ tables_1) d hd)
theorem own_char255 (x : Int32) : ¬ nar .char ((x &&& (255 : Int32)).toUInt32.toUInt16.toUInt32.toInt32) < 0 ∧ ¬ (255 : Int32) < nar .char ((x &&& (255 : Int32)).toUInt32.toUInt16.toUInt32.toInt32) := by
  have t : ∀ k : Fin 256, ¬ nar .char ((Int32.ofNat k.val).toUInt32.toUInt16.toUInt32.toInt32) < 0 ∧ ¬ (255 : Int32) < nar .char ((Int32.ofNat k.val).toUInt32.toUInt16.toUInt32.toInt32) := by decide +kernel
  have h : (x &&& 255).toBitVec.toNat < 256 := by
    simp only [Int32.toBitVec_and, BitVec.toNat_and]
    exact Nat.lt_succ_of_le Nat.and_le_right
  have e : (x &&& 255) = Int32.ofNat (x &&& 255).toBitVec.toNat := by
    apply Int32.toBitVec_inj.mp
    show _ = BitVec.ofNat 32 _
    rw [BitVec.ofNat_toNat]; simp
  rw [e]
  exact t ⟨_, h⟩
def own_EL : List (String × Nat) := [("java/lang/String", 7)]
theorem own_ew {Z : State} {a0 : Array Value} (hw : ∀ d ∈ tables_1, d.before a0 Z = true) : EW Z a0 own_EL := by
  have W : ∀ (i : Nat) {d : Jvm.Cond}, tables_1[i]? = some d → d.before a0 Z = true := fun i d h => hw d (List.mem_of_getElem? h)
  exact EW.cons (W 39 rfl) (by decide) (EW.nil)
theorem own_sa {Z : State} {a0 : Array Value} (hw : ∀ d ∈ tables_1, d.before a0 Z = true) : ∀ a ∈ Bundle.stringAtoms, a.before a0 Z = true := fun d hd => hw d ((by decide +kernel : ∀ d ∈ Bundle.stringAtoms, d ∈ tables_1) d hd)
theorem own_mono {s t : State} {o : Outcome} {L : List Loc} {k n k' n' : Nat} (h : ReturnedEndW s o t L k n) (hk : k ≤ k') (hn : n ≤ n') : ReturnedEndW s o t L k' n' := ⟨h.1, h.2.1, h.2.2.1, h.2.2.2.mono hk hn⟩
theorem own_safeS {Z : State} {EL : List (String × Nat)} {vm : Vm} {h : Heap} {x : Addr} (hal : Z.vm.Alike vm) (E : Exa Z h x "java/lang/String") (F0 : Fld Z h x "java/lang/String" "value" "[B" .null) : Safe Z EL vm h x := fun B => by
  obtain ⟨p, hp, u, a, hb, q, hq, F, e | e⟩ := B
  · subst e
    obtain ⟨cell, cf, k, i, f, h1, h2, -, -, -, -, h7⟩ := F0
    cases (show h[q.sa]? = some q.sC from F.ha).symm.trans h1
    obtain ⟨cS, ⟨⟨-, -, -, ⟨c1, k1, i1, f1, -⟩, -, -, -, v1, -⟩, -⟩, -⟩ := F
    obtain ⟨k3, e3, -⟩ := State.fieldFound?_setVm (s := Z) hal h2
    have e4 := (show (Wst Z vm h).fieldFound? _ _ _ = _ from e3).symm.trans f1
    simp only [Option.some.injEq, Prod.mk.injEq] at e4
    rw [← e4.2.2.2, h7] at v1
    cases v1
  · subst e
    obtain ⟨cell, k, e1, e2, e3, -, -⟩ := E
    cases (show h[q.sd]? = some q.SA from F.hd).symm.trans e1
    obtain ⟨cS, -, -, f, -⟩ := F
    have f' : vm.findClass "[B" = some q.SA.cls := f
    rw [hal.findClass] at f'
    obtain ⟨k1, q1, q2⟩ := Vm.findClass_spec f'
    obtain ⟨k2, q3, q4⟩ := Vm.findClass_spec e2
    cases q1.symm.trans q3
    exact absurd (q2.symm.trans q4) (by decide)
def own_ok (p : Int32) : Prop := nar .char p = p ∧ ¬ p < 0 ∧ ¬ (255 : Int32) < p
theorem own_okc (x : Int32) : own_ok ((x &&& (255 : Int32)).toUInt32.toUInt16.toUInt32.toInt32) := by
  have e : nar .char ((x &&& (255 : Int32)).toUInt32.toUInt16.toUInt32.toInt32) = ((x &&& (255 : Int32)).toUInt32.toUInt16.toUInt32.toInt32) := by simp only [nar, UInt32.toUInt32_toInt32, UInt16.toUInt16_toUInt32]
  have h := own_char255 x
  rw [e] at h
  exact ⟨e, h⟩
theorem dx_jdk_43_method_3_code_0 : decode jdk_43_method_3_code 0 = .ok (.iload_n 0, 1) := by decide +kernel
theorem dx_jdk_43_method_3_code_1 : decode jdk_43_method_3_code 1 = .ok (.sipush 255, 3) := by decide +kernel
theorem dx_jdk_43_method_3_code_4 : decode jdk_43_method_3_code 4 = .ok (.if_icmp .gt 7, 3) := by decide +kernel
theorem dx_jdk_43_method_3_code_7 : decode jdk_43_method_3_code 7 = .ok (.iconst 1, 1) := by decide +kernel
theorem dx_jdk_43_method_3_code_8 : decode jdk_43_method_3_code 8 = .ok (.goto 4, 3) := by decide +kernel
theorem dx_jdk_43_method_3_code_12 : decode jdk_43_method_3_code 12 = .ok (.ireturn, 1) := by decide +kernel
def Qcenc (Z : State) (G1 : Int32) (pz : Int32) (h0 : Heap) (n0 : Nat) (v : Option Value) (h : Heap) (L : List Loc) : Prop := v = some (.int (1 : Int32)) ∧ Fr n0 L ∧ h = h0
theorem ef_jdk_43_method_3_code_I (m : MethodId) (x0 : Int32) : entryFrame m #[(.int x0)] 1 = mkF m 0 #[.val (.int x0)] [] := by first | (simp [entryFrame, mkF, argsToLocals, Value.category]; done) | rfl
abbrev y0 : MethodName := ⟨"java/lang/StringLatin1", "canEncode", "(C)Z"⟩
theorem pn_java_lang_StringLatin1 : plainName "java/lang/StringLatin1" = true := by first | (simp [plainName, overriddenIn]; done) | decide +kernel
set_option maxRecDepth 65536 in
set_option maxHeartbeats 40000000 in
theorem rmcenc (l : Launch) (Z : State) (a0 : Array Value) (G1 : Int32) (hG : Glob Z a0 G1) (ws : List Jvm.Cond) (pz : Int32) (h0 : Heap) (n0 : Nat) (Z0 : n0 ≤ h0.size) (X00 : Old Z n0 h0) (hp : ¬ ((255 : Int32) < pz)) :
    MetFree l y0 (head1 (Jvm.Cond.code y0 jdk_43_method_3_code 1 (some .boolean) :: ws) ({ frames := 0, cells := 0, slots := 0, locals := 0 } : Room)) (fun a U => a = #[(.int pz)] ∧ Z.Warmed39 U.vm ∧ U.heap = h0) (fun _ _ _ _ _ => True) (fun _ U o U' => ∃ v L, o = .returned v ∧ Qcenc Z G1 pz h0 n0 v U'.heap L ∧ FrameEnd U o U' L ({ frames := 0, cells := 0, slots := 0, locals := 0 } : Room).cells ({ frames := 0, cells := 0, slots := 0, locals := 0 } : Room).slots) := by
  obtain ⟨hw, O_cs, P_cs⟩ := id hG
  have W : ∀ (i : Nat) {d : Jvm.Cond}, tables_1[i]? = some d → d.before a0 Z = true := fun i d h => hw d (List.mem_of_getElem? h)
  refine MetFree.of_bodySF (plainFor_of_name pn_java_lang_StringLatin1) hisR ?_
  intro p e s m args below meth c s₁ Bd hml0 hP hK
  obtain ⟨rfl, hZ, hh⟩ := hP
  have hx := Bd.exec
  have hby := Bd.bytes
  have hml : c.maxLocals = 1 := hml0
  have hown : s.vm.findClass "java/lang/StringLatin1" = some m.cls := findClass_of_methodNamed Bd.named
  have hnm := (name_of_methodNamed Bd.named Bd.method).1
  have X0 : Stand p l e ({ frames := 0, cells := 0, slots := 0, locals := 0 } : Room) s m #[(.int pz)] below meth c s₁ [] 0 0 := Stand.of_body Bd
  have e0 : s₁.heap = h0 := by rw [← hh, Bd.state]; rfl
  have N0 := Fr.nil n0
  have pre0 : ∀ t, Steps p.tables e below (s₁.setTop (mkF m 0 #[.val (.int pz)] [])) t → Steps p.tables e below (s₁.setTop (entryFrame m #[(.int pz)] 1)) t := fun t kk_ => castTop (ef_jdk_43_method_3_code_I m pz) kk_
  obtain ⟨fs, hr, hrun, hended, hW, hsame⟩ := X0.leave (v := some (.int (1 : Int32))) (fun h => by rw [Bd.returns] at h; cases h)
  refine ⟨_, _, pre0 _ ?_, hrun, hended, _, _, rfl, ?_, ⟨_, rfl⟩, hW, hsame.mono (Nat.le_of_ble_eq_true rfl) (Nat.le_of_ble_eq_true rfl)⟩
  · show Steps p.tables e below (s₁.setTop (mkF m 0 #[.val (.int pz)] [])) _
    refine XS.iloadN X0.here hx rfl (hb hby dx_jdk_43_method_3_code_0) rfl ?_
    show Steps p.tables e below (s₁.setTop (mkF m 1 #[.val (.int pz)] [(.int pz)])) _
    refine XS.sipush X0.here hx rfl (hb hby dx_jdk_43_method_3_code_1) ?_
    show Steps p.tables e below (s₁.setTop (mkF m 4 #[.val (.int pz)] [(.int (255 : Int32)), (.int pz)])) _
    refine XS.icmpNo X0.here hx rfl (hb hby dx_jdk_43_method_3_code_4) rfl (flt (hp : ¬ ((255 : Int32) < pz))).2.2.1 ?_
    show Steps p.tables e below (s₁.setTop (mkF m 7 #[.val (.int pz)] [])) _
    refine XS.iconst X0.here hx rfl (hb hby dx_jdk_43_method_3_code_7) ?_
    show Steps p.tables e below (s₁.setTop (mkF m 8 #[.val (.int pz)] [(.int (1 : Int32))])) _
    refine XS.goto X0.here hx rfl (pc0 := 8) (pc' := 12) rfl (hb hby dx_jdk_43_method_3_code_8) (by decide) (by decide) ?_
    show Steps p.tables e below (s₁.setTop (mkF m 12 #[.val (.int pz)] [(.int (1 : Int32))])) _
    exact retN X0 hx (t := .boolean) Bd.returns (by simp) (hb hby dx_jdk_43_method_3_code_12) hr
  · show Qcenc Z G1 pz h0 n0 _ s₁.heap _
    rw [e0]
    exact ⟨rfl, N0, rfl⟩
theorem dx_jdk_43_method_46_code_0 : decode jdk_43_method_46_code 0 = .ok (.iconst 1, 1) := by decide +kernel
theorem dx_jdk_43_method_46_code_1 : decode jdk_43_method_46_code 1 = .ok (.newarray .byte, 2) := by decide +kernel
theorem dx_jdk_43_method_46_code_3 : decode jdk_43_method_46_code 3 = .ok (.dup, 1) := by decide +kernel
theorem dx_jdk_43_method_46_code_4 : decode jdk_43_method_46_code 4 = .ok (.iconst 0, 1) := by decide +kernel
theorem dx_jdk_43_method_46_code_5 : decode jdk_43_method_46_code 5 = .ok (.iload_n 0, 1) := by decide +kernel
theorem dx_jdk_43_method_46_code_6 : decode jdk_43_method_46_code 6 = .ok (.i2b, 1) := by decide +kernel
theorem dx_jdk_43_method_46_code_7 : decode jdk_43_method_46_code 7 = .ok (.bastore, 1) := by decide +kernel
theorem dx_jdk_43_method_46_code_8 : decode jdk_43_method_46_code 8 = .ok (.areturn, 1) := by decide +kernel
def Qtob (Z : State) (G1 : Int32) (pz : Int32) (h0 : Heap) (n0 : Nat) (v : Option Value) (h : Heap) (L : List Loc) : Prop := ∃ b : Addr, v = some (.ref b) ∧ Fr n0 L ∧ Keep h0 h [] ∧ h0.size ≤ b
theorem ef_jdk_43_method_46_code_I (m : MethodId) (x0 : Int32) : entryFrame m #[(.int x0)] 1 = mkF m 0 #[.val (.int x0)] [] := by first | (simp [entryFrame, mkF, argsToLocals, Value.category]; done) | rfl
abbrev y1 : MethodName := ⟨"java/lang/StringLatin1", "toBytes", "(C)[B"⟩
set_option maxRecDepth 65536 in
set_option maxHeartbeats 40000000 in
theorem rmtob (l : Launch) (Z : State) (a0 : Array Value) (G1 : Int32) (hG : Glob Z a0 G1) (ws : List Jvm.Cond) (pz : Int32) (h0 : Heap) (n0 : Nat) (Z0 : n0 ≤ h0.size) (X00 : Old Z n0 h0) :
    MetFree l y1 (head1 (Jvm.Cond.code y1 jdk_43_method_46_code 1 (some (.array .byte)) :: ws) ({ frames := 0, cells := 1, slots := 1, locals := 0 } : Room)) (fun a U => a = #[(.int pz)] ∧ Z.Warmed39 U.vm ∧ U.heap = h0) (fun _ _ _ _ _ => True) (fun _ U o U' => ∃ v L, o = .returned v ∧ Qtob Z G1 pz h0 n0 v U'.heap L ∧ FrameEnd U o U' L ({ frames := 0, cells := 1, slots := 1, locals := 0 } : Room).cells ({ frames := 0, cells := 1, slots := 1, locals := 0 } : Room).slots) := by
  obtain ⟨hw, O_cs, P_cs⟩ := id hG
  have W : ∀ (i : Nat) {d : Jvm.Cond}, tables_1[i]? = some d → d.before a0 Z = true := fun i d h => hw d (List.mem_of_getElem? h)
  refine MetFree.of_bodySF (plainFor_of_name pn_java_lang_StringLatin1) hisR ?_
  intro p e s m args below meth c s₁ Bd hml0 hP hK
  obtain ⟨rfl, hZ, hh⟩ := hP
  have hx := Bd.exec
  have hby := Bd.bytes
  have hml : c.maxLocals = 1 := hml0
  have hown : s.vm.findClass "java/lang/StringLatin1" = some m.cls := findClass_of_methodNamed Bd.named
  have hnm := (name_of_methodNamed Bd.named Bd.method).1
  have X0 : Stand p l e ({ frames := 0, cells := 1, slots := 1, locals := 0 } : Room) s m #[(.int pz)] below meth c s₁ [] 0 0 := Stand.of_body Bd
  have e0 : s₁.heap = h0 := by rw [← hh, Bd.state]; rfl
  have N0 := Fr.nil n0
  have pre0 : ∀ t, Steps p.tables e below (s₁.setTop (mkF m 0 #[.val (.int pz)] [])) t → Steps p.tables e below (s₁.setTop (entryFrame m #[(.int pz)] 1)) t := fun t kk_ => castTop (ef_jdk_43_method_46_code_I m pz) kk_
  obtain ⟨T1, h1, k1, X1, e1, E1, A1, Q1, st1⟩ := newPE X0 hx hZ (W 19 rfl) e0 (g := (mkF m 1 #[.val (.int pz)] [(.int (1 : Int32))])) rfl (hb hby dx_jdk_43_method_46_code_1) rfl (by decide) (cap := 1) (by decide) (by decide) (by decide) (by decide) (ad := "[B") rfl
  obtain ⟨b1, g1⟩ : ∃ z, z = h0.size := ⟨_, rfl⟩
  rw [← g1] at A1 Q1 st1
  have Z2 : n0 ≤ h1.size := Nat.le_trans Z0 E1.1
  have K0_2 : Keep h0 h1 [] := (Keep.refl h0 []).ext E1
  have O2 : Old Z n0 h1 := X00.ext E1
  have lo_b1 : h0.size ≤ b1 := Nat.le_of_eq g1.symm
  have g_b1 : n0 ≤ b1 := Nat.le_trans Z0 lo_b1
  have l0_b1 : h0.size ≤ b1 := Nat.le_trans (Keep.refl h0 []).1 lo_b1
  have V_b1 : Arv Z h1 b1 k1 .byte (1 : Int32) [(.int (0 : Int32))] (.int (0 : Int32)) := (Arv.new A1 (by decide)).pad (pad_rep [] (.int (0 : Int32)) 1)
  obtain ⟨clq3, Arq3, qaq3, Sq3, Nq3, Hq3, Gq3⟩ := id V_b1
  have hinq3 : ¬ ((0 : Int32) < 0 ∨ clq3.slots.size ≤ ((0 : Int32)).toNatClampNeg) := inb_of Sq3 ⟨by decide, by decide⟩
  obtain ⟨T4, h4, X4, e4, W4, st4⟩ := stB X1 hx hZ e1 Arq3 (j := (0 : Int32)) hinq3 (g := (mkF m 7 #[.val (.int pz)] [(.int (pz.toInt8.toInt32)), (.int (0 : Int32)), (.ref b1), (.ref b1)])) rfl rfl (hb hby dx_jdk_43_method_46_code_7)
  have V4 : Arv Z h4 b1 k1 .byte (1 : Int32) [(.int ((pz.toInt8.toInt32).toInt8.toInt32))] (.int (0 : Int32)) := Arv.set Arq3 qaq3 Sq3 Nq3 Hq3 Gq3 (fits_nar_byte _) W4 0 rfl (Nat.le_of_ble_eq_true rfl)
  have Z5 : n0 ≤ h4.size := Nat.le_trans Z2 (Keep.of_wr W4).1
  have K0_5 : Keep h0 h4 [] := K0_2.wr W4 (Or.inr l0_b1)
  have O5 : Old Z n0 h4 := O2.wr W4 g_b1
  have N4 := Fr.snoc X4 N0 g_b1
  obtain ⟨fs, hr, hrun, hended, hW, hsame⟩ := X4.leave (v := some (.ref b1)) (fun h => by rw [Bd.returns] at h; cases h)
  refine ⟨_, _, pre0 _ ?_, hrun, hended, _, _, rfl, ?_, ⟨_, rfl⟩, hW, hsame.mono (Nat.le_of_ble_eq_true rfl) (Nat.le_of_ble_eq_true rfl)⟩
  · show Steps p.tables e below (s₁.setTop (mkF m 0 #[.val (.int pz)] [])) _
    refine XS.iconst X0.here hx rfl (hb hby dx_jdk_43_method_46_code_0) ?_
    show Steps p.tables e below (s₁.setTop (mkF m 1 #[.val (.int pz)] [(.int (1 : Int32))])) _
    refine st1 _ ?_
    show Steps p.tables e below (T1.setTop (mkF m 3 #[.val (.int pz)] [(.ref b1)])) _
    refine XS.dup X1.here hx rfl (hb hby dx_jdk_43_method_46_code_3) rfl rfl ?_
    show Steps p.tables e below (T1.setTop (mkF m 4 #[.val (.int pz)] [(.ref b1), (.ref b1)])) _
    refine XS.iconst X1.here hx rfl (hb hby dx_jdk_43_method_46_code_4) ?_
    show Steps p.tables e below (T1.setTop (mkF m 5 #[.val (.int pz)] [(.int (0 : Int32)), (.ref b1), (.ref b1)])) _
    refine XS.iloadN X1.here hx rfl (hb hby dx_jdk_43_method_46_code_5) rfl ?_
    show Steps p.tables e below (T1.setTop (mkF m 6 #[.val (.int pz)] [(.int pz), (.int (0 : Int32)), (.ref b1), (.ref b1)])) _
    refine XS.i2b X1.here hx rfl (hb hby dx_jdk_43_method_46_code_6) rfl ?_
    show Steps p.tables e below (T1.setTop (mkF m 7 #[.val (.int pz)] [(.int (pz.toInt8.toInt32)), (.int (0 : Int32)), (.ref b1), (.ref b1)])) _
    refine st4 _ ?_
    show Steps p.tables e below (T4.setTop (mkF m 8 #[.val (.int pz)] [(.ref b1)])) _
    exact retOut X4 hx Bd.returns rfl (Or.inr (Or.inr (Or.inr (Or.inr ⟨rfl, rfl, rfl⟩)))) (hb hby dx_jdk_43_method_46_code_8) hr
  · show Qtob Z G1 pz h0 n0 _ T4.heap _
    rw [e4]
    exact ⟨b1, rfl, N4, K0_5, l0_b1⟩
theorem dx_jdk_42_method_151_code_0 : decode jdk_42_method_151_code 0 = .ok (.aload_n 0, 1) := by decide +kernel
theorem dx_jdk_42_method_151_code_1 : decode jdk_42_method_151_code 1 = .ok (.invokespecial 1, 3) := by decide +kernel
theorem dx_jdk_42_method_151_code_4 : decode jdk_42_method_151_code 4 = .ok (.aload_n 0, 1) := by decide +kernel
theorem dx_jdk_42_method_151_code_5 : decode jdk_42_method_151_code 5 = .ok (.aload_n 1, 1) := by decide +kernel
theorem dx_jdk_42_method_151_code_6 : decode jdk_42_method_151_code 6 = .ok (.putfield 9, 3) := by decide +kernel
theorem dx_jdk_42_method_151_code_9 : decode jdk_42_method_151_code 9 = .ok (.aload_n 0, 1) := by decide +kernel
theorem dx_jdk_42_method_151_code_10 : decode jdk_42_method_151_code 10 = .ok (.iload_n 2, 1) := by decide +kernel
theorem dx_jdk_42_method_151_code_11 : decode jdk_42_method_151_code 11 = .ok (.putfield 15, 3) := by decide +kernel
theorem dx_jdk_42_method_151_code_14 : decode jdk_42_method_151_code 14 = .ok (.return_, 1) := by decide +kernel
def Qsbb (Z : State) (G1 : Int32) (a1 : Addr) (b : Addr) (h0 : Heap) (n0 : Nat) (v : Option Value) (h : Heap) (L : List Loc) : Prop := v = none ∧ Fr n0 L ∧ Keep h0 h [a1] ∧ Exa Z h a1 "java/lang/String" ∧ Fld Z h a1 "java/lang/String" "value" "[B" (.ref b) ∧ Fld Z h a1 "java/lang/String" "coder" "B" (.int (0 : Int32))
theorem ef_jdk_42_method_151_code_RRI (m : MethodId) (x0 : Addr) (x1 : Addr) (x2 : Int32) : entryFrame m #[(.ref x0), (.ref x1), (.int x2)] 3 = mkF m 0 #[.val (.ref x0), .val (.ref x1), .val (.int x2)] [] := by first | (simp [entryFrame, mkF, argsToLocals, Value.category]; done) | rfl
abbrev y2 : MethodName := ⟨"java/lang/String", "<init>", "([BB)V"⟩
theorem pn_java_lang_String : plainName "java/lang/String" = true := by first | (simp [plainName, overriddenIn]; done) | decide +kernel
set_option maxRecDepth 65536 in
set_option maxHeartbeats 40000000 in
theorem rmsbb (l : Launch) (Z : State) (a0 : Array Value) (G1 : Int32) (hG : Glob Z a0 G1) (ws : List Jvm.Cond) (a1 : Addr) (b : Addr) (h0 : Heap) (n0 : Nat) (Z0 : n0 ≤ h0.size) (X00 : Old Z n0 h0) (E_a1 : Exa Z h0 a1 "java/lang/String") (g_a1 : n0 ≤ a1) (F_value_a1 : Fld Z h0 a1 "java/lang/String" "value" "[B" .null) (F_coder_a1 : Fld Z h0 a1 "java/lang/String" "coder" "B" (.int (0 : Int32))) :
    MetFree l y2 (head1 (Jvm.Cond.code y2 jdk_42_method_151_code 3 none :: ws) ({ frames := 1, cells := 0, slots := 0, locals := 12 } : Room)) (fun a U => a = #[(.ref a1), (.ref b), (.int (0 : Int32))] ∧ Z.Warmed39 U.vm ∧ U.heap = h0) (fun _ _ _ _ _ => True) (fun _ U o U' => ∃ v L, o = .returned v ∧ Qsbb Z G1 a1 b h0 n0 v U'.heap L ∧ FrameEnd U o U' L ({ frames := 1, cells := 0, slots := 0, locals := 12 } : Room).cells ({ frames := 1, cells := 0, slots := 0, locals := 12 } : Room).slots) := by
  obtain ⟨hw, O_cs, P_cs⟩ := id hG
  have W : ∀ (i : Nat) {d : Jvm.Cond}, tables_1[i]? = some d → d.before a0 Z = true := fun i d h => hw d (List.mem_of_getElem? h)
  refine MetFree.of_bodySF (plainFor_of_name pn_java_lang_String) hisR ?_
  intro p e s m args below meth c s₁ Bd hml0 hP hK
  obtain ⟨rfl, hZ, hh⟩ := hP
  have hx := Bd.exec
  have hby := Bd.bytes
  have hml : c.maxLocals = 3 := hml0
  have hown : s.vm.findClass "java/lang/String" = some m.cls := findClass_of_methodNamed Bd.named
  have hnm := (name_of_methodNamed Bd.named Bd.method).1
  have X0 : Stand p l e ({ frames := 1, cells := 0, slots := 0, locals := 12 } : Room) s m #[(.ref a1), (.ref b), (.int (0 : Int32))] below meth c s₁ [] 0 0 := Stand.of_body Bd
  have e0 : s₁.heap = h0 := by rw [← hh, Bd.state]; rfl
  have N0 := Fr.nil n0
  have pre0 : ∀ t, Steps p.tables e below (s₁.setTop (mkF m 0 #[.val (.ref a1), .val (.ref b), .val (.int (0 : Int32))] [])) t → Steps p.tables e below (s₁.setTop (entryFrame m #[(.ref a1), (.ref b), (.int (0 : Int32))] 3)) t := fun t kk_ => castTop (ef_jdk_42_method_151_code_RRI m a1 b (0 : Int32)) kk_
  obtain ⟨T6, X6, e6, st6⟩ := initO X0 hx hZ hown (W 24 rfl) (W 25 rfl) (W 26 rfl) e0 (g := (mkF m 1 #[.val (.ref a1), .val (.ref b), .val (.int (0 : Int32))] [(.ref a1)])) rfl (by rw [hml]; rfl) rfl (hb hby dx_jdk_42_method_151_code_1) (by decide) (W := 0) (by show 2 * 0 + _ ≤ _; exact Nat.le_of_eq rfl) (by decide)
  obtain ⟨T7, h7, X7, e7, W7, st7⟩ := putF X6 hx hZ hown (host := "") (Or.inl (W 27 rfl)) Via.refl e6 F_value_a1 E_a1 (Or.inr ⟨(W 28 rfl), rfl, hnm⟩) (W 15 rfl) (ty := (.array .byte)) (by decide) rfl rfl (g := (mkF m 6 #[.val (.ref a1), .val (.ref b), .val (.int (0 : Int32))] [(.ref b), (.ref a1)])) rfl rfl (hb hby dx_jdk_42_method_151_code_6)
  have Fw7 := F_value_a1.same W7
  have Z8 : n0 ≤ h7.size := Nat.le_trans Z0 (Keep.of_wr W7).1
  have K0_8 : Keep h0 h7 [a1] := (Keep.refl h0 [a1]).wr W7 (Or.inl (List.mem_of_getElem? (i := 0) rfl))
  have O8 : Old Z n0 h7 := X00.wr W7 g_a1
  have N7 := Fr.snoc X7 N0 g_a1
  have f9 := (E_a1.wr W7)
  have f10 := (F_coder_a1.other W7 (Or.inr (slot_ne (Or.inr (W 30 rfl)) (Or.inr (W 28 rfl)) (by decide) (t := .byte) (t' := (.array .byte)) (by decide) (by decide))))
  obtain ⟨T11, h11, X11, e11, W11, st11⟩ := putF X7 hx hZ hown (host := "") (Or.inl (W 29 rfl)) Via.refl e7 f10 f9 (Or.inr ⟨(W 30 rfl), rfl, hnm⟩) (W 15 rfl) (ty := .byte) (by decide) rfl rfl (g := (mkF m 11 #[.val (.ref a1), .val (.ref b), .val (.int (0 : Int32))] [(.int (0 : Int32)), (.ref a1)])) rfl rfl (hb hby dx_jdk_42_method_151_code_11)
  have Fw11 := f10.same W11
  have Z12 : n0 ≤ h11.size := Nat.le_trans Z8 (Keep.of_wr W11).1
  have K0_12 : Keep h0 h11 [a1] := K0_8.wr W11 (Or.inl (List.mem_of_getElem? (i := 0) rfl))
  have O12 : Old Z n0 h11 := O8.wr W11 g_a1
  have N11 := Fr.snoc X11 N7 g_a1
  have f13 := (f9.wr W11)
  have f14 := (Fw7.other W11 (Or.inr (slot_ne (Or.inr (W 28 rfl)) (Or.inr (W 30 rfl)) (by decide) (t := (.array .byte)) (t' := .byte) (by decide) (by decide))))
  obtain ⟨fs, hr, hrun, hended, hW, hsame⟩ := X11.leave (v := none) (fun _ => rfl)
  refine ⟨_, _, pre0 _ ?_, hrun, hended, _, _, rfl, ?_, ⟨_, rfl⟩, hW, hsame.mono (Nat.le_of_ble_eq_true rfl) (Nat.le_of_ble_eq_true rfl)⟩
  · show Steps p.tables e below (s₁.setTop (mkF m 0 #[.val (.ref a1), .val (.ref b), .val (.int (0 : Int32))] [])) _
    refine XS.aloadN X0.here hx rfl (hb hby dx_jdk_42_method_151_code_0) rfl rfl ?_
    show Steps p.tables e below (s₁.setTop (mkF m 1 #[.val (.ref a1), .val (.ref b), .val (.int (0 : Int32))] [(.ref a1)])) _
    refine st6 _ ?_
    show Steps p.tables e below (T6.setTop (mkF m 4 #[.val (.ref a1), .val (.ref b), .val (.int (0 : Int32))] [])) _
    refine XS.aloadN X6.here hx rfl (hb hby dx_jdk_42_method_151_code_4) rfl rfl ?_
    show Steps p.tables e below (T6.setTop (mkF m 5 #[.val (.ref a1), .val (.ref b), .val (.int (0 : Int32))] [(.ref a1)])) _
    refine XS.aloadN X6.here hx rfl (hb hby dx_jdk_42_method_151_code_5) rfl rfl ?_
    show Steps p.tables e below (T6.setTop (mkF m 6 #[.val (.ref a1), .val (.ref b), .val (.int (0 : Int32))] [(.ref b), (.ref a1)])) _
    refine st7 _ ?_
    show Steps p.tables e below (T7.setTop (mkF m 9 #[.val (.ref a1), .val (.ref b), .val (.int (0 : Int32))] [])) _
    refine XS.aloadN X7.here hx rfl (hb hby dx_jdk_42_method_151_code_9) rfl rfl ?_
    show Steps p.tables e below (T7.setTop (mkF m 10 #[.val (.ref a1), .val (.ref b), .val (.int (0 : Int32))] [(.ref a1)])) _
    refine XS.iloadN X7.here hx rfl (hb hby dx_jdk_42_method_151_code_10) rfl ?_
    show Steps p.tables e below (T7.setTop (mkF m 11 #[.val (.ref a1), .val (.ref b), .val (.int (0 : Int32))] [(.int (0 : Int32)), (.ref a1)])) _
    refine st11 _ ?_
    show Steps p.tables e below (T11.setTop (mkF m 14 #[.val (.ref a1), .val (.ref b), .val (.int (0 : Int32))] [])) _
    exact X11.returnOut hx Bd.returns (hb hby dx_jdk_42_method_151_code_14) hr
  · show Qsbb Z G1 a1 b h0 n0 _ T11.heap _
    rw [e11]
    exact ⟨rfl, N11, K0_12, f13, f14, Fw11⟩
theorem dx_jdk_42_method_139_code_0 : decode jdk_42_method_139_code 0 = .ok (.getstatic 38, 3) := by decide +kernel
theorem dx_jdk_42_method_139_code_3 : decode jdk_42_method_139_code 3 = .ok (.ifCond .eq 23, 3) := by decide +kernel
theorem dx_jdk_42_method_139_code_6 : decode jdk_42_method_139_code 6 = .ok (.iload_n 0, 1) := by decide +kernel
theorem dx_jdk_42_method_139_code_7 : decode jdk_42_method_139_code 7 = .ok (.invokestatic 1015, 3) := by decide +kernel
theorem pd__C_Z : parseMethodDescriptor "(C)Z" = some ⟨[.char], some .boolean⟩ := by decide +kernel
theorem dx_jdk_42_method_139_code_10 : decode jdk_42_method_139_code 10 = .ok (.ifCond .eq 16, 3) := by decide +kernel
theorem dx_jdk_42_method_139_code_13 : decode jdk_42_method_139_code 13 = .ok (.new 10, 3) := by decide +kernel
theorem dx_jdk_42_method_139_code_16 : decode jdk_42_method_139_code 16 = .ok (.dup, 1) := by decide +kernel
theorem dx_jdk_42_method_139_code_17 : decode jdk_42_method_139_code 17 = .ok (.iload_n 0, 1) := by decide +kernel
theorem dx_jdk_42_method_139_code_18 : decode jdk_42_method_139_code 18 = .ok (.invokestatic 1018, 3) := by decide +kernel
theorem pd__C__B : parseMethodDescriptor "(C)[B" = some ⟨[.char], some (.array .byte)⟩ := by decide +kernel
theorem dx_jdk_42_method_139_code_21 : decode jdk_42_method_139_code 21 = .ok (.iconst 0, 1) := by decide +kernel
theorem dx_jdk_42_method_139_code_22 : decode jdk_42_method_139_code 22 = .ok (.invokespecial 209, 3) := by decide +kernel
theorem pd___BB_V : parseMethodDescriptor "([BB)V" = some ⟨[(.array .byte), .byte], none⟩ := by decide +kernel
theorem dx_jdk_42_method_139_code_25 : decode jdk_42_method_139_code 25 = .ok (.areturn, 1) := by decide +kernel
def Qvo (Z : State) (G1 : Int32) (pz : Int32) (h0 : Heap) (n0 : Nat) (v : Option Value) (h : Heap) (L : List Loc) : Prop := ∃ b : Addr, v = some (.ref b) ∧ Fr n0 L ∧ Keep h0 h [] ∧ h0.size ≤ b ∧ Exa Z h b "java/lang/String"
theorem ef_jdk_42_method_139_code_I (m : MethodId) (x0 : Int32) : entryFrame m #[(.int x0)] 1 = mkF m 0 #[.val (.int x0)] [] := by first | (simp [entryFrame, mkF, argsToLocals, Value.category]; done) | rfl
abbrev y3 : MethodName := ⟨"java/lang/String", "valueOf", "(C)Ljava/lang/String;"⟩
set_option maxRecDepth 65536 in
set_option maxHeartbeats 40000000 in
theorem rmvo (l : Launch) (Z : State) (a0 : Array Value) (G1 : Int32) (hG : Glob Z a0 G1) (ws : List Jvm.Cond) (pz : Int32) (h0 : Heap) (n0 : Nat) (Z0 : n0 ≤ h0.size) (X00 : Old Z n0 h0) (hp : ¬ ((255 : Int32) < pz)) :
    MetFree l y3 (head1 (Jvm.Cond.code y3 jdk_42_method_139_code 1 (some (.object "java/lang/String")) :: ws) ({ frames := 2, cells := 2, slots := 5, locals := 27 } : Room)) (fun a U => a = #[(.int pz)] ∧ Z.Warmed39 U.vm ∧ U.heap = h0) (fun _ _ _ _ _ => True) (fun _ U o U' => ∃ v L, o = .returned v ∧ Qvo Z G1 pz h0 n0 v U'.heap L ∧ FrameEnd U o U' L ({ frames := 2, cells := 2, slots := 5, locals := 27 } : Room).cells ({ frames := 2, cells := 2, slots := 5, locals := 27 } : Room).slots) := by
  obtain ⟨hw, O_cs, P_cs⟩ := id hG
  have W : ∀ (i : Nat) {d : Jvm.Cond}, tables_1[i]? = some d → d.before a0 Z = true := fun i d h => hw d (List.mem_of_getElem? h)
  refine MetFree.of_bodySF (plainFor_of_name pn_java_lang_String) hisR ?_
  intro p e s m args below meth c s₁ Bd hml0 hP hK
  obtain ⟨rfl, hZ, hh⟩ := hP
  have hx := Bd.exec
  have hby := Bd.bytes
  have hml : c.maxLocals = 1 := hml0
  have hown : s.vm.findClass "java/lang/String" = some m.cls := findClass_of_methodNamed Bd.named
  have hnm := (name_of_methodNamed Bd.named Bd.method).1
  have X0 : Stand p l e ({ frames := 2, cells := 2, slots := 5, locals := 27 } : Room) s m #[(.int pz)] below meth c s₁ [] 0 0 := Stand.of_body Bd
  have e0 : s₁.heap = h0 := by rw [← hh, Bd.state]; rfl
  have N0 := Fr.nil n0
  have pre0 : ∀ t, Steps p.tables e below (s₁.setTop (mkF m 0 #[.val (.int pz)] [])) t → Steps p.tables e below (s₁.setTop (entryFrame m #[(.int pz)] 1)) t := fun t kk_ => castTop (ef_jdk_42_method_139_code_I m pz) kk_
  obtain ⟨T15, X15, e15, st15⟩ := getS2 X0 hx hZ hown (host := "") (Or.inl (W 9 rfl)) Via.refl e0 (O_cs.ext X00.2) (g := (mkF m 0 #[.val (.int pz)] [])) rfl (hb hby dx_jdk_42_method_139_code_0)
  -- pc 7: java/lang/StringLatin1.canEncode
  obtain ⟨_, _, ⟨T16, L16, k16, n16⟩, -, X16, ⟨Lc16, hQ16, l16, y16, z16⟩, st16⟩ := Jvm.LawKit.callS X15 hx (y := y0) hown (mvT hZ (W 10 rfl)) (mvT hZ (W 11 rfl)) (mvT hZ (W 12 rfl)) (mvT hZ (W 13 rfl)) (by decide) (backOf (W := 0) (rmcenc l Z a0 G1 hG [] pz h0 n0 Z0 X00 (by first | assumption | decide | rfl)) hZ (W 13 rfl) (W 12 rfl) (by decide) (by decide)) (g := (mkF m 7 #[.val (.int pz)] [(.int pz)])) rfl (by rw [hml]; rfl) (argsL := [(.int pz)]) (rest := []) (lenOf pd__C_Z rfl) rfl (by show 2 * 0 + _ ≤ _; exact Nat.le_of_eq rfl) (hb hby dx_jdk_42_method_139_code_7) (fun _ _ => ⟨rfl, e15, (by decide : 0 + 0 ≤ _), (by decide : 0 + 0 ≤ _)⟩)
  dsimp only [Pt.U, Pt.locs, Pt.cells, Pt.slots] at X16 l16 y16 z16 st16 hQ16
  subst l16 y16 z16
  obtain ⟨rfl, N16q, eq16⟩ := hQ16
  have N16 := Fr.app N0 N16q
  obtain ⟨T17, h17, X17, e17, E17, A17, D17, -, st17⟩ := newO X16 hx hZ hown (W 14 rfl) (W 15 rfl) (W 7 rfl) eq16 (g := (mkF m 13 #[.val (.int pz)] [])) rfl (hb hby dx_jdk_42_method_139_code_13) (by decide) (by decide)
  obtain ⟨b17, g17⟩ : ∃ z, z = h0.size := ⟨_, rfl⟩
  rw [← g17] at A17 D17 st17
  have Z18 : n0 ≤ h17.size := Nat.le_trans Z0 E17.1
  have K0_18 : Keep h0 h17 [] := (Keep.refl h0 []).ext E17
  have O18 : Old Z n0 h17 := X00.ext E17
  have lo_b17 : h0.size ≤ b17 := Nat.le_of_eq g17.symm
  have g_b17 : n0 ≤ b17 := Nat.le_trans Z0 lo_b17
  have l0_b17 : h0.size ≤ b17 := Nat.le_trans (Keep.refl h0 []).1 lo_b17
  have F_value_b17 : Fld Z h17 b17 "java/lang/String" "value" "[B" .null := D17 (Or.inr (W 28 rfl)) (ty := (.array .byte)) (by decide)
  have F_coder_b17 : Fld Z h17 b17 "java/lang/String" "coder" "B" (.int (0 : Int32)) := D17 (Or.inr (W 30 rfl)) (ty := .byte) (by decide)
  -- pc 18: java/lang/StringLatin1.toBytes
  obtain ⟨_, _, ⟨T19, L19, k19, n19⟩, -, X19, ⟨Lc19, hQ19, l19, y19, z19⟩, st19⟩ := Jvm.LawKit.callS X17 hx (y := y1) hown (mvT hZ (W 16 rfl)) (mvT hZ (W 17 rfl)) (mvT hZ (W 12 rfl)) (mvT hZ (W 18 rfl)) (by decide) (backOf (W := 2) (rmtob l Z a0 G1 hG [] pz h17 n0 Z18 O18) hZ (W 18 rfl) (W 12 rfl) (by decide) (by decide)) (g := (mkF m 18 #[.val (.int pz)] [(.int pz), (.ref b17), (.ref b17)])) rfl (by rw [hml]; rfl) (argsL := [(.int pz)]) (rest := [(.ref b17), (.ref b17)]) (lenOf pd__C__B rfl) rfl (by show 2 * 0 + _ ≤ _; exact Nat.le_of_eq rfl) (hb hby dx_jdk_42_method_139_code_18) (fun _ _ => ⟨rfl, e17, (by decide : 1 + 1 ≤ _), (by decide : 4 + 1 ≤ _)⟩)
  dsimp only [Pt.U, Pt.locs, Pt.cells, Pt.slots] at X19 l19 y19 z19 st19 hQ19
  subst l19 y19 z19
  obtain ⟨b_19, rfl, N19q, K19, f19_0⟩ := hQ19
  have N19 := Fr.app N16 N19q
  have Z20 : n0 ≤ T19.heap.size := Nat.le_trans Z18 K19.1
  have K0_20 : Keep h0 T19.heap [] := K0_18.trans K19 all0
  have O20 : Old Z n0 T19.heap := O18.keep K19 all0
  have lo_b_19 : h17.size ≤ b_19 := f19_0
  have g_b_19 : n0 ≤ b_19 := Nat.le_trans Z18 lo_b_19
  have l0_b_19 : h0.size ≤ b_19 := Nat.le_trans K0_18.1 lo_b_19
  have f22 := (A17.keep K19)
  have f23 := (F_value_b17.keep K19 nin0)
  have f24 := (F_coder_b17.keep K19 nin0)
  -- pc 22: java/lang/String.<init>
  obtain ⟨_, _, ⟨T21, L21, k21, n21⟩, -, X21, ⟨Lc21, hQ21, l21, y21, z21⟩, st21⟩ := X19.specialBack hx (y := y2) rfl hown (mvT hZ (W 20 rfl)) (mvT hZ (W 21 rfl)) (mvT hZ (W 23 rfl)) (by decide) (backOf (W := 1) (rmsbb l Z a0 G1 hG [] b17 b_19 T19.heap n0 Z20 O20 f22 g_b17 f23 f24) hZ (W 23 rfl) (W 7 rfl) (by decide) (by decide)) (g := (mkF m 22 #[.val (.int pz)] [(.int (0 : Int32)), (.ref b_19), (.ref b17), (.ref b17)])) rfl (by rw [hml]; rfl) (Steps.refl _) (a := b17) (argsL := [(.ref b_19), (.int (0 : Int32))]) (rest := [(.ref b17)]) (lenOf pd___BB_V rfl) rfl (by show 2 * 0 + _ ≤ _; exact Nat.le_of_eq rfl) (hb hby dx_jdk_42_method_139_code_22) (fun _ _ => ⟨rfl, rfl, (by decide : 2 + 0 ≤ _), (by decide : 5 + 0 ≤ _)⟩)
  dsimp only [Pt.U, Pt.locs, Pt.cells, Pt.slots] at X21 l21 y21 z21 st21 hQ21
  subst l21 y21 z21
  obtain ⟨rfl, N21q, K21, f21_0, f21_1, f21_2⟩ := hQ21
  have N21 := Fr.app N19 N21q
  have Z25 : n0 ≤ T21.heap.size := Nat.le_trans Z20 K21.1
  have K0_25 : Keep h0 T21.heap [] := K0_20.trans K21 (allS (Or.inr l0_b17) all0)
  have O25 : Old Z n0 T21.heap := O20.keep K21 (allS g_b17 all0)
  obtain ⟨fs, hr, hrun, hended, hW, hsame⟩ := X21.leave (v := some (.ref b17)) (fun h => by rw [Bd.returns] at h; cases h)
  refine ⟨_, _, pre0 _ ?_, hrun, hended, _, _, rfl, ?_, ⟨_, rfl⟩, hW, hsame.mono (Nat.le_of_ble_eq_true rfl) (Nat.le_of_ble_eq_true rfl)⟩
  · show Steps p.tables e below (s₁.setTop (mkF m 0 #[.val (.int pz)] [])) _
    refine st15 _ ?_
    show Steps p.tables e below (T15.setTop (mkF m 3 #[.val (.int pz)] [(.int G1)])) _
    refine XS.ifNo X15.here hx rfl (hb hby dx_jdk_42_method_139_code_3) rfl ((if0 _ _).trans (feq (P_cs : ¬ (G1 = (0 : Int32)))).1) ?_
    show Steps p.tables e below (T15.setTop (mkF m 6 #[.val (.int pz)] [])) _
    refine XS.iloadN X15.here hx rfl (hb hby dx_jdk_42_method_139_code_6) rfl ?_
    show Steps p.tables e below (T15.setTop (mkF m 7 #[.val (.int pz)] [(.int pz)])) _
    refine st16 _ ?_
    show Steps p.tables e below (T16.setTop (mkF m 10 #[.val (.int pz)] [(.int (1 : Int32))])) _
    refine XS.ifNo X16.here hx rfl (hb hby dx_jdk_42_method_139_code_10) rfl ((if0 _ _).trans (feq (by decide : ¬ ((1 : Int32) = (0 : Int32)))).1) ?_
    show Steps p.tables e below (T16.setTop (mkF m 13 #[.val (.int pz)] [])) _
    refine st17 _ ?_
    show Steps p.tables e below (T17.setTop (mkF m 16 #[.val (.int pz)] [(.ref b17)])) _
    refine XS.dup X17.here hx rfl (hb hby dx_jdk_42_method_139_code_16) rfl rfl ?_
    show Steps p.tables e below (T17.setTop (mkF m 17 #[.val (.int pz)] [(.ref b17), (.ref b17)])) _
    refine XS.iloadN X17.here hx rfl (hb hby dx_jdk_42_method_139_code_17) rfl ?_
    show Steps p.tables e below (T17.setTop (mkF m 18 #[.val (.int pz)] [(.int pz), (.ref b17), (.ref b17)])) _
    refine st19 _ ?_
    show Steps p.tables e below (T19.setTop (mkF m 21 #[.val (.int pz)] [(.ref b_19), (.ref b17), (.ref b17)])) _
    refine XS.iconst X19.here hx rfl (hb hby dx_jdk_42_method_139_code_21) ?_
    show Steps p.tables e below (T19.setTop (mkF m 22 #[.val (.int pz)] [(.int (0 : Int32)), (.ref b_19), (.ref b17), (.ref b17)])) _
    refine st21.trans ?_
    show Steps p.tables e below (T21.setTop (mkF m 25 #[.val (.int pz)] [(.ref b17)])) _
    exact retOut X21 hx Bd.returns rfl (Or.inr (Or.inr (Or.inr (Or.inr ⟨rfl, rfl, rfl⟩)))) (hb hby dx_jdk_42_method_139_code_25) hr
  · show Qvo Z G1 pz h0 n0 _ T21.heap _
    exact ⟨b17, rfl, N21, K0_25, l0_b17, f21_0⟩
theorem dx_jdk_42_method_149_code_0 : decode jdk_42_method_149_code 0 = .ok (.aload_n 0, 1) := by decide +kernel
theorem dx_jdk_42_method_149_code_1 : decode jdk_42_method_149_code 1 = .ok (.invokespecial 1, 3) := by decide +kernel
theorem dx_jdk_42_method_149_code_4 : decode jdk_42_method_149_code 4 = .ok (.iload_n 3, 1) := by decide +kernel
theorem dx_jdk_42_method_149_code_5 : decode jdk_42_method_149_code 5 = .ok (.ifCond .ne 22, 3) := by decide +kernel
theorem dx_jdk_42_method_149_code_8 : decode jdk_42_method_149_code 8 = .ok (.aload_n 0, 1) := by decide +kernel
theorem dx_jdk_42_method_149_code_9 : decode jdk_42_method_149_code 9 = .ok (.ldc 7, 2) := by decide +kernel
theorem dx_jdk_42_method_149_code_11 : decode jdk_42_method_149_code 11 = .ok (.getfield 9, 3) := by decide +kernel
theorem dx_jdk_42_method_149_code_14 : decode jdk_42_method_149_code 14 = .ok (.putfield 9, 3) := by decide +kernel
theorem dx_jdk_42_method_149_code_17 : decode jdk_42_method_149_code 17 = .ok (.aload_n 0, 1) := by decide +kernel
theorem dx_jdk_42_method_149_code_18 : decode jdk_42_method_149_code 18 = .ok (.ldc 7, 2) := by decide +kernel
theorem dx_jdk_42_method_149_code_20 : decode jdk_42_method_149_code 20 = .ok (.getfield 15, 3) := by decide +kernel
theorem dx_jdk_42_method_149_code_23 : decode jdk_42_method_149_code 23 = .ok (.putfield 15, 3) := by decide +kernel
theorem dx_jdk_42_method_149_code_26 : decode jdk_42_method_149_code 26 = .ok (.return_, 1) := by decide +kernel
def Qsvz (Z : State) (G1 : Int32) (a1 : Addr) (b : Addr) (h0 : Heap) (n0 : Nat) (v : Option Value) (h : Heap) (L : List Loc) : Prop := ∃ t : Addr, ∃ kb : ClassId, v = none ∧ Fr n0 L ∧ Keep h0 h [a1] ∧ Exa Z h a1 "java/lang/String" ∧ Fld Z h a1 "java/lang/String" "coder" "B" (.int 0) ∧ Fld Z h a1 "java/lang/String" "value" "[B" (.ref t) ∧ Arv Z h t kb .byte (0 : Int32) ([]) (.int 0)
theorem ef_jdk_42_method_149_code_RRIIN (m : MethodId) (x0 : Addr) (x1 : Addr) (x2 : Int32) (x3 : Int32) : entryFrame m #[(.ref x0), (.ref x1), (.int x2), (.int x3), .null] 6 = mkF m 0 #[.val (.ref x0), .val (.ref x1), .val (.int x2), .val (.int x3), .val .null, .unset] [] := by first | (simp [entryFrame, mkF, argsToLocals, Value.category]; done) | rfl
abbrev y4 : MethodName := ⟨"java/lang/String", "<init>", "([CIILjava/lang/Void;)V"⟩
set_option maxRecDepth 65536 in
set_option maxHeartbeats 40000000 in
theorem rmsvz (l : Launch) (Z : State) (a0 : Array Value) (G1 : Int32) (hG : Glob Z a0 G1) (ws : List Jvm.Cond) (a1 : Addr) (b : Addr) (h0 : Heap) (n0 : Nat) (Z0 : n0 ≤ h0.size) (X00 : Old Z n0 h0) (E_a1 : Exa Z h0 a1 "java/lang/String") (g_a1 : n0 ≤ a1) (F_value_a1 : Fld Z h0 a1 "java/lang/String" "value" "[B" .null) (F_coder_a1 : Fld Z h0 a1 "java/lang/String" "coder" "B" (.int (0 : Int32))) :
    MetFree l y4 (head1 (Jvm.Cond.code y4 jdk_42_method_149_code 6 none :: ws) ({ frames := 1, cells := 4, slots := 8, locals := 12 } : Room)) (fun a U => a = #[(.ref a1), (.ref b), (.int (0 : Int32)), (.int (0 : Int32)), .null] ∧ Z.Warmed39 U.vm ∧ U.heap = h0 ∧ CHv Z own_EL U.vm h0) (fun _ _ _ _ _ => True) (fun _ U o U' => ∃ v L, o = .returned v ∧ Qsvz Z G1 a1 b h0 n0 v U'.heap L ∧ CHr Z own_EL U.vm U.heap U'.vm U'.heap ∧ ReturnedEndW U o U' L ({ frames := 1, cells := 4, slots := 8, locals := 12 } : Room).cells ({ frames := 1, cells := 4, slots := 8, locals := 12 } : Room).slots) := by
  obtain ⟨hw, O_cs, P_cs⟩ := id hG
  have W : ∀ (i : Nat) {d : Jvm.Cond}, tables_1[i]? = some d → d.before a0 Z = true := fun i d h => hw d (List.mem_of_getElem? h)
  refine MetFree.of_bodySF (plainFor_of_name pn_java_lang_String) hisR ?_
  intro p e s m args below meth c s₁ Bd hml0 hP hK
  obtain ⟨rfl, hZ, hh, hCH⟩ := hP
  have hx := Bd.exec
  have hby := Bd.bytes
  have hml : c.maxLocals = 6 := hml0
  have hown : s.vm.findClass "java/lang/String" = some m.cls := findClass_of_methodNamed Bd.named
  have hnm := (name_of_methodNamed Bd.named Bd.method).1
  have X0 : Stand p l e ({ frames := 1, cells := 4, slots := 8, locals := 12 } : Room) (s.setVm s.vm) m #[(.ref a1), (.ref b), (.int (0 : Int32)), (.int (0 : Int32)), .null] below meth c s₁ [] 0 0 := Stand.of_body Bd
  have e0 : s₁.heap = h0 := by rw [← hh, Bd.state]; rfl
  have hS0 : s.Since s.vm h0.size := (State.WarmedH.refl s).since _
  have hk0 : h0.size ≤ h0.size := Nat.le_refl _
  have R0 : CHr Z own_EL s.vm h0 s.vm h0 := CHr.refl hCH
  have hEL := own_ew hw
  have N0 := Fr.nil n0
  have pre0 : ∀ t, Steps p.tables e below (s₁.setTop (mkF m 0 #[.val (.ref a1), .val (.ref b), .val (.int (0 : Int32)), .val (.int (0 : Int32)), .val .null, .unset] [])) t → Steps p.tables e below (s₁.setTop (entryFrame m #[(.ref a1), (.ref b), (.int (0 : Int32)), (.int (0 : Int32)), .null] 6)) t := fun t kk_ => castTop (ef_jdk_42_method_149_code_RRIIN m a1 b (0 : Int32) (0 : Int32)) kk_
  have sf0_a1 : Safe Z own_EL s.vm h0 a1 := own_safeS hZ.alike E_a1 F_value_a1
  obtain ⟨T26, X26, e26, st26⟩ := initO X0 hx hZ hown (W 24 rfl) (W 25 rfl) (W 26 rfl) e0 (g := (mkF m 1 #[.val (.ref a1), .val (.ref b), .val (.int (0 : Int32)), .val (.int (0 : Int32)), .val .null, .unset] [(.ref a1)])) rfl (by rw [hml]; rfl) rfl (hb hby dx_jdk_42_method_149_code_1) (by decide) (W := 0) (by show 2 * 0 + _ ≤ _; exact Nat.le_of_eq rfl) (by decide)
  obtain ⟨a27, T27, h27, k27, b27, kb27, X27, e27, E27, hS27, hk27, hZ27, hw27, Ea27, Ca27, Va27, Ba27, la27, lb27, hC27, -, hne27, st27⟩ := ldcCH X26 hx hZ hown (W 39 rfl) (own_sa hw) e26 hS0 hk0 hEL (by decide) R0.1 (vs := []) (z := (0 : Int32)) ⟨by decide, by decide +kernel⟩ (by decide) (by decide) (g := (mkF m 9 #[.val (.ref a1), .val (.ref b), .val (.int (0 : Int32)), .val (.int (0 : Int32)), .val .null, .unset] [(.ref a1)])) rfl (hb hby dx_jdk_42_method_149_code_9) (n := 0) (by decide) (by decide) (by decide) (by decide)
  have Z28 : n0 ≤ h27.size := Nat.le_trans Z0 E27.1
  have K0_28 : Keep h0 h27 [a1] := (Keep.refl h0 [a1]).ext E27
  have O28 : Old Z n0 h27 := X00.ext E27
  have sf27_a1 : Safe Z own_EL T27.vm h27 a1 := hC27.safe E_a1.lt sf0_a1
  have Rb27 : CHr Z own_EL s.vm h0 T27.vm h27 := R0.trans hC27
  have ns27_a1 := hne27 _ sf27_a1
  obtain ⟨T29, X29, e29, st29⟩ := getF X27 hx hZ27 hw27 (host := "") (Or.inl (W 27 rfl)) Via.refl e27 Va27 (g := (mkF m 11 #[.val (.ref a1), .val (.ref b), .val (.int (0 : Int32)), .val (.int (0 : Int32)), .val .null, .unset] [(.ref a27), (.ref a1)])) rfl rfl (hb hby dx_jdk_42_method_149_code_11)
  have f30 := (E_a1.ext E27)
  have f31 := (F_value_a1.ext E27)
  obtain ⟨T32, h32, X32, e32, W32, st32⟩ := putF X29 hx hZ27 hw27 (host := "") (Or.inl (W 27 rfl)) Via.refl e29 f31 f30 (Or.inr ⟨(W 28 rfl), rfl, hnm⟩) (W 15 rfl) (ty := (.array .byte)) (by decide) rfl rfl (g := (mkF m 14 #[.val (.ref a1), .val (.ref b), .val (.int (0 : Int32)), .val (.int (0 : Int32)), .val .null, .unset] [(.ref b27), (.ref a1)])) rfl rfl (hb hby dx_jdk_42_method_149_code_14)
  have Fw32 := f31.same W32
  have Z33 : n0 ≤ h32.size := Nat.le_trans Z28 (Keep.of_wr W32).1
  have K0_33 : Keep h0 h32 [a1] := K0_28.wr W32 (Or.inl (List.mem_of_getElem? (i := 0) rfl))
  have O33 : Old Z n0 h32 := O28.wr W32 g_a1
  have R33 : CHr Z own_EL s.vm h0 T27.vm h32 := Rb27.trans (CHr.wr W32 sf27_a1 Rb27.1)
  have hk33 : k27 ≤ h32.size := Nat.le_trans hk27 (Keep.of_wr W32).1
  have sf33_a1 : Safe Z own_EL T27.vm h32 a1 := Safe.wr W32 sf27_a1 Rb27.1 sf27_a1
  have N32 := Fr.snoc X32 N0 g_a1
  obtain ⟨a34, T34, h34, k34, b34, kb34, X34, e34, E34, hS34, hk34, hZ34, hw34, Ea34, Ca34, Va34, Ba34, la34, lb34, hC34, -, hne34, st34⟩ := ldcCH X32 hx hZ27 hw27 (W 39 rfl) (own_sa hw) e32 hS27 hk33 hEL (by decide) R33.1 (vs := []) (z := (0 : Int32)) ⟨by decide, by decide +kernel⟩ (by decide) (by decide) (g := (mkF m 18 #[.val (.ref a1), .val (.ref b), .val (.int (0 : Int32)), .val (.int (0 : Int32)), .val .null, .unset] [(.ref a1)])) rfl (hb hby dx_jdk_42_method_149_code_18) (n := 0) (by decide) (by decide) (by decide) (by decide)
  have Z35 : n0 ≤ h34.size := Nat.le_trans Z33 E34.1
  have K0_35 : Keep h0 h34 [a1] := K0_33.ext E34
  have O35 : Old Z n0 h34 := O33.ext E34
  have f36 := (f30.wr W32)
  have sf34_a1 : Safe Z own_EL T34.vm h34 a1 := hC34.safe f36.lt sf33_a1
  have Rb34 : CHr Z own_EL s.vm h0 T34.vm h34 := R33.trans hC34
  have ns34_a1 := hne34 _ sf34_a1
  obtain ⟨T37, X37, e37, st37⟩ := getF X34 hx hZ34 hw34 (host := "") (Or.inl (W 29 rfl)) Via.refl e34 Ca34 (g := (mkF m 20 #[.val (.ref a1), .val (.ref b), .val (.int (0 : Int32)), .val (.int (0 : Int32)), .val .null, .unset] [(.ref a34), (.ref a1)])) rfl rfl (hb hby dx_jdk_42_method_149_code_20)
  have f38 := (f36.ext E34)
  have f39 := (((F_coder_a1.ext E27).other W32 (Or.inr (slot_ne (Or.inr (W 30 rfl)) (Or.inr (W 28 rfl)) (by decide) (t := .byte) (t' := (.array .byte)) (by decide) (by decide)))).ext E34)
  obtain ⟨T40, h40, X40, e40, W40, st40⟩ := putF X37 hx hZ34 hw34 (host := "") (Or.inl (W 29 rfl)) Via.refl e37 f39 f38 (Or.inr ⟨(W 30 rfl), rfl, hnm⟩) (W 15 rfl) (ty := .byte) (by decide) rfl rfl (g := (mkF m 23 #[.val (.ref a1), .val (.ref b), .val (.int (0 : Int32)), .val (.int (0 : Int32)), .val .null, .unset] [(.int 0), (.ref a1)])) rfl rfl (hb hby dx_jdk_42_method_149_code_23)
  have Fw40 := f39.same W40
  have Z41 : n0 ≤ h40.size := Nat.le_trans Z35 (Keep.of_wr W40).1
  have K0_41 : Keep h0 h40 [a1] := K0_35.wr W40 (Or.inl (List.mem_of_getElem? (i := 0) rfl))
  have O41 : Old Z n0 h40 := O35.wr W40 g_a1
  have R41 : CHr Z own_EL s.vm h0 T34.vm h40 := Rb34.trans (CHr.wr W40 sf34_a1 Rb34.1)
  have hk41 : k34 ≤ h40.size := Nat.le_trans hk34 (Keep.of_wr W40).1
  have sf41_a1 : Safe Z own_EL T34.vm h40 a1 := Safe.wr W40 sf34_a1 Rb34.1 sf34_a1
  have N40 := Fr.snoc X40 N32 g_a1
  have f42 := (f38.wr W40)
  have f43 := ((Fw32.ext E34).other W40 (Or.inr (slot_ne (Or.inr (W 28 rfl)) (Or.inr (W 30 rfl)) (by decide) (t := (.array .byte)) (t' := .byte) (by decide) (by decide))))
  have f44 := (((Ba27.other W32 (Ne.symm ns27_a1.2)).ext E34).other W40 (Ne.symm ns27_a1.2))
  obtain ⟨fs, hr, hrun, hended, hend⟩ := Jvm.Stand.leaveW (v := none) X40 hS34 (by rw [e40]; exact hk41) (fun _ => rfl)
  have hFin := R41.trans (CHv.at X40 hZ34 hEL R41.1)
  refine ⟨_, _, pre0 _ ?_, hrun, hended, _, _, rfl, ?_, ?_, own_mono hend (Nat.le_of_ble_eq_true rfl) (Nat.le_of_ble_eq_true rfl)⟩
  · show Steps p.tables e below (s₁.setTop (mkF m 0 #[.val (.ref a1), .val (.ref b), .val (.int (0 : Int32)), .val (.int (0 : Int32)), .val .null, .unset] [])) _
    refine XS.aloadN X0.here hx rfl (hb hby dx_jdk_42_method_149_code_0) rfl rfl ?_
    show Steps p.tables e below (s₁.setTop (mkF m 1 #[.val (.ref a1), .val (.ref b), .val (.int (0 : Int32)), .val (.int (0 : Int32)), .val .null, .unset] [(.ref a1)])) _
    refine st26 _ ?_
    show Steps p.tables e below (T26.setTop (mkF m 4 #[.val (.ref a1), .val (.ref b), .val (.int (0 : Int32)), .val (.int (0 : Int32)), .val .null, .unset] [])) _
    refine XS.iloadN X26.here hx rfl (hb hby dx_jdk_42_method_149_code_4) rfl ?_
    show Steps p.tables e below (T26.setTop (mkF m 5 #[.val (.ref a1), .val (.ref b), .val (.int (0 : Int32)), .val (.int (0 : Int32)), .val .null, .unset] [(.int (0 : Int32))])) _
    refine XS.ifNo X26.here hx rfl (hb hby dx_jdk_42_method_149_code_5) rfl ((if0 _ _).trans (teq (by decide : (0 : Int32) = (0 : Int32))).2) ?_
    show Steps p.tables e below (T26.setTop (mkF m 8 #[.val (.ref a1), .val (.ref b), .val (.int (0 : Int32)), .val (.int (0 : Int32)), .val .null, .unset] [])) _
    refine XS.aloadN X26.here hx rfl (hb hby dx_jdk_42_method_149_code_8) rfl rfl ?_
    show Steps p.tables e below (T26.setTop (mkF m 9 #[.val (.ref a1), .val (.ref b), .val (.int (0 : Int32)), .val (.int (0 : Int32)), .val .null, .unset] [(.ref a1)])) _
    refine st27 _ ?_
    show Steps p.tables e below (T27.setTop (mkF m 11 #[.val (.ref a1), .val (.ref b), .val (.int (0 : Int32)), .val (.int (0 : Int32)), .val .null, .unset] [(.ref a27), (.ref a1)])) _
    refine st29 _ ?_
    show Steps p.tables e below (T29.setTop (mkF m 14 #[.val (.ref a1), .val (.ref b), .val (.int (0 : Int32)), .val (.int (0 : Int32)), .val .null, .unset] [(.ref b27), (.ref a1)])) _
    refine st32 _ ?_
    show Steps p.tables e below (T32.setTop (mkF m 17 #[.val (.ref a1), .val (.ref b), .val (.int (0 : Int32)), .val (.int (0 : Int32)), .val .null, .unset] [])) _
    refine XS.aloadN X32.here hx rfl (hb hby dx_jdk_42_method_149_code_17) rfl rfl ?_
    show Steps p.tables e below (T32.setTop (mkF m 18 #[.val (.ref a1), .val (.ref b), .val (.int (0 : Int32)), .val (.int (0 : Int32)), .val .null, .unset] [(.ref a1)])) _
    refine st34 _ ?_
    show Steps p.tables e below (T34.setTop (mkF m 20 #[.val (.ref a1), .val (.ref b), .val (.int (0 : Int32)), .val (.int (0 : Int32)), .val .null, .unset] [(.ref a34), (.ref a1)])) _
    refine st37 _ ?_
    show Steps p.tables e below (T37.setTop (mkF m 23 #[.val (.ref a1), .val (.ref b), .val (.int (0 : Int32)), .val (.int (0 : Int32)), .val .null, .unset] [(.int 0), (.ref a1)])) _
    refine st40 _ ?_
    show Steps p.tables e below (T40.setTop (mkF m 26 #[.val (.ref a1), .val (.ref b), .val (.int (0 : Int32)), .val (.int (0 : Int32)), .val .null, .unset] [])) _
    exact X40.returnOut hx Bd.returns (hb hby dx_jdk_42_method_149_code_26) hr
  · show Qsvz Z G1 a1 b h0 n0 _ T40.heap _
    rw [e40]
    exact ⟨b27, kb27, rfl, N40, K0_41, f42, Fw40, f43, f44⟩
  · show CHr Z own_EL s.vm s.heap T40.vm T40.heap
    rw [hh, e40]
    exact hFin
theorem dx_jdk_42_method_3_code_0 : decode jdk_42_method_3_code 0 = .ok (.aload_n 0, 1) := by decide +kernel
theorem dx_jdk_42_method_3_code_1 : decode jdk_42_method_3_code 1 = .ok (.aload_n 1, 1) := by decide +kernel
theorem dx_jdk_42_method_3_code_2 : decode jdk_42_method_3_code 2 = .ok (.iconst 0, 1) := by decide +kernel
theorem dx_jdk_42_method_3_code_3 : decode jdk_42_method_3_code 3 = .ok (.aload_n 1, 1) := by decide +kernel
theorem dx_jdk_42_method_3_code_4 : decode jdk_42_method_3_code 4 = .ok (.arraylength, 1) := by decide +kernel
theorem dx_jdk_42_method_3_code_5 : decode jdk_42_method_3_code 5 = .ok (.aconst_null, 1) := by decide +kernel
theorem dx_jdk_42_method_3_code_6 : decode jdk_42_method_3_code 6 = .ok (.invokespecial 27, 3) := by decide +kernel
theorem pd___CIILjava_lang_Void__V : parseMethodDescriptor "([CIILjava/lang/Void;)V" = some ⟨[(.array .char), .int, .int, (.object "java/lang/Void")], none⟩ := by decide +kernel
theorem dx_jdk_42_method_3_code_9 : decode jdk_42_method_3_code 9 = .ok (.return_, 1) := by decide +kernel
def Qsz (Z : State) (G1 : Int32) (a1 : Addr) (b : Addr) (kc : ClassId) (h0 : Heap) (n0 : Nat) (v : Option Value) (h : Heap) (L : List Loc) : Prop := ∃ t : Addr, ∃ kb : ClassId, v = none ∧ Fr n0 L ∧ Keep h0 h [a1] ∧ Exa Z h a1 "java/lang/String" ∧ Fld Z h a1 "java/lang/String" "coder" "B" (.int 0) ∧ Fld Z h a1 "java/lang/String" "value" "[B" (.ref t) ∧ Arv Z h t kb .byte (0 : Int32) ([]) (.int 0)
theorem ef_jdk_42_method_3_code_RR (m : MethodId) (x0 : Addr) (x1 : Addr) : entryFrame m #[(.ref x0), (.ref x1)] 2 = mkF m 0 #[.val (.ref x0), .val (.ref x1)] [] := by first | (simp [entryFrame, mkF, argsToLocals, Value.category]; done) | rfl
abbrev y5 : MethodName := ⟨"java/lang/String", "<init>", "([C)V"⟩
set_option maxRecDepth 65536 in
set_option maxHeartbeats 40000000 in
theorem rmsz (l : Launch) (Z : State) (a0 : Array Value) (G1 : Int32) (hG : Glob Z a0 G1) (ws : List Jvm.Cond) (a1 : Addr) (b : Addr) (kc : ClassId) (h0 : Heap) (n0 : Nat) (Z0 : n0 ≤ h0.size) (X00 : Old Z n0 h0) (E_a1 : Exa Z h0 a1 "java/lang/String") (g_a1 : n0 ≤ a1) (F_value_a1 : Fld Z h0 a1 "java/lang/String" "value" "[B" .null) (F_coder_a1 : Fld Z h0 a1 "java/lang/String" "coder" "B" (.int (0 : Int32))) (V_b : Arv Z h0 b kc .char (0 : Int32) [] (.int (0 : Int32))) :
    MetFree l y5 (head1 (Jvm.Cond.code y5 jdk_42_method_3_code 2 none :: ws) ({ frames := 2, cells := 4, slots := 8, locals := 29 } : Room)) (fun a U => a = #[(.ref a1), (.ref b)] ∧ Z.Warmed39 U.vm ∧ U.heap = h0 ∧ CHv Z own_EL U.vm h0) (fun _ _ _ _ _ => True) (fun _ U o U' => ∃ v L, o = .returned v ∧ Qsz Z G1 a1 b kc h0 n0 v U'.heap L ∧ CHr Z own_EL U.vm U.heap U'.vm U'.heap ∧ ReturnedEndW U o U' L ({ frames := 2, cells := 4, slots := 8, locals := 29 } : Room).cells ({ frames := 2, cells := 4, slots := 8, locals := 29 } : Room).slots) := by
  obtain ⟨hw, O_cs, P_cs⟩ := id hG
  have W : ∀ (i : Nat) {d : Jvm.Cond}, tables_1[i]? = some d → d.before a0 Z = true := fun i d h => hw d (List.mem_of_getElem? h)
  refine MetFree.of_bodySF (plainFor_of_name pn_java_lang_String) hisR ?_
  intro p e s m args below meth c s₁ Bd hml0 hP hK
  obtain ⟨rfl, hZ, hh, hCH⟩ := hP
  have hx := Bd.exec
  have hby := Bd.bytes
  have hml : c.maxLocals = 2 := hml0
  have hown : s.vm.findClass "java/lang/String" = some m.cls := findClass_of_methodNamed Bd.named
  have hnm := (name_of_methodNamed Bd.named Bd.method).1
  have X0 : Stand p l e ({ frames := 2, cells := 4, slots := 8, locals := 29 } : Room) (s.setVm s.vm) m #[(.ref a1), (.ref b)] below meth c s₁ [] 0 0 := Stand.of_body Bd
  have e0 : s₁.heap = h0 := by rw [← hh, Bd.state]; rfl
  have hS0 : s.Since s.vm h0.size := (State.WarmedH.refl s).since _
  have hk0 : h0.size ≤ h0.size := Nat.le_refl _
  have R0 : CHr Z own_EL s.vm h0 s.vm h0 := CHr.refl hCH
  have hEL := own_ew hw
  have N0 := Fr.nil n0
  have pre0 : ∀ t, Steps p.tables e below (s₁.setTop (mkF m 0 #[.val (.ref a1), .val (.ref b)] [])) t → Steps p.tables e below (s₁.setTop (entryFrame m #[(.ref a1), (.ref b)] 2)) t := fun t kk_ => castTop (ef_jdk_42_method_3_code_RR m a1 b) kk_
  obtain ⟨clq45, Arq45, qaq45, Sq45, Nq45, Hq45, Gq45⟩ := id V_b
  -- pc 6: java/lang/String.<init>
  obtain ⟨_, _, ⟨T46, L46, k46, n46⟩, -, X46, hS46, hG46, ⟨Lc46, hQ46, l46, y46, z46, hC46⟩, st46⟩ := X0.specialBackS hx (y := y4) rfl hown (mvT hZ (W 36 rfl)) (mvT hZ (W 37 rfl)) (mvT hZ (W 38 rfl)) (by decide) (backOfSH (s := s) (W := 0) (rmsvz l Z a0 G1 hG [] a1 b h0 n0 Z0 X00 E_a1 g_a1 F_value_a1 F_coder_a1) hZ (W 38 rfl) (W 7 rfl) (by decide) (by decide) hEL R0.1) (g := (mkF m 6 #[.val (.ref a1), .val (.ref b)] [.null, (.int (0 : Int32)), (.int (0 : Int32)), (.ref b), (.ref a1)])) rfl (by rw [hml]; rfl) (Steps.refl _) (a := a1) (argsL := [(.ref b), (.int (0 : Int32)), (.int (0 : Int32)), .null]) (rest := []) (lenOf pd___CIILjava_lang_Void__V rfl) rfl (by show 2 * 0 + _ ≤ _; exact Nat.le_of_eq rfl) (hb hby dx_jdk_42_method_3_code_6) (fun _ _ => ⟨rfl, e0, (by decide : 0 + 4 ≤ _), (by decide : 0 + 8 ≤ _)⟩)
  dsimp only [Pt.U, Pt.locs, Pt.cells, Pt.slots] at X46 l46 y46 z46 st46 hQ46 hS46 hG46 hC46
  subst l46 y46 z46
  have hZ46 : Z.Warmed39 T46.vm := State.Warmed39.trans (t := s.setVm s.vm) hZ hS46.1
  have hw46 : T46.vm.findClass "java/lang/String" = some m.cls := by rw [hS46.1.alike.findClass]; exact hown
  have hSn46 : s.Since T46.vm T46.heap.size := hS0.trans hS46 (Nat.le_trans hk0 (by have q := hG46; rw [e0] at q; exact q))
  have X46 : Stand p l e _ (s.setVm T46.vm) m _ below meth c T46 _ _ _ := X46
  obtain ⟨t_46, kb_46, rfl, N46q, K46, f46_0, f46_1, f46_2, f46_3⟩ := hQ46
  have N46 := Fr.app N0 N46q
  have Z47 : n0 ≤ T46.heap.size := Nat.le_trans Z0 K46.1
  have K0_47 : Keep h0 T46.heap [a1] := (Keep.refl h0 [a1]).trans K46 (allS (Or.inl (List.mem_of_getElem? (i := 0) rfl)) all0)
  have O47 : Old Z n0 T46.heap := X00.keep K46 (allS g_a1 all0)
  have hkw46 : T46.heap.size ≤ T46.heap.size := Nat.le_refl _
  have Rb46 : CHr Z own_EL s.vm h0 T46.vm T46.heap := R0.trans hC46
  obtain ⟨fs, hr, hrun, hended, hend⟩ := Jvm.Stand.leaveW (v := none) X46 hSn46 hkw46 (fun _ => rfl)
  have hFin := Rb46.trans (CHv.at X46 hZ46 hEL Rb46.1)
  refine ⟨_, _, pre0 _ ?_, hrun, hended, _, _, rfl, ?_, ?_, own_mono hend (Nat.le_of_ble_eq_true rfl) (Nat.le_of_ble_eq_true rfl)⟩
  · show Steps p.tables e below (s₁.setTop (mkF m 0 #[.val (.ref a1), .val (.ref b)] [])) _
    refine XS.aloadN X0.here hx rfl (hb hby dx_jdk_42_method_3_code_0) rfl rfl ?_
    show Steps p.tables e below (s₁.setTop (mkF m 1 #[.val (.ref a1), .val (.ref b)] [(.ref a1)])) _
    refine XS.aloadN X0.here hx rfl (hb hby dx_jdk_42_method_3_code_1) rfl rfl ?_
    show Steps p.tables e below (s₁.setTop (mkF m 2 #[.val (.ref a1), .val (.ref b)] [(.ref b), (.ref a1)])) _
    refine XS.iconst X0.here hx rfl (hb hby dx_jdk_42_method_3_code_2) ?_
    show Steps p.tables e below (s₁.setTop (mkF m 3 #[.val (.ref a1), .val (.ref b)] [(.int (0 : Int32)), (.ref b), (.ref a1)])) _
    refine XS.aloadN X0.here hx rfl (hb hby dx_jdk_42_method_3_code_3) rfl rfl ?_
    show Steps p.tables e below (s₁.setTop (mkF m 4 #[.val (.ref a1), .val (.ref b)] [(.ref b), (.int (0 : Int32)), (.ref b), (.ref a1)])) _
    refine X0.arraylength hx (by rw [e0]; exact Arq45.1) (State.isArrayOf_alike hZ.alike Arq45.2.1) (g := (mkF m 4 #[.val (.ref a1), .val (.ref b)] [(.ref b), (.int (0 : Int32)), (.ref b), (.ref a1)])) rfl rfl (hb hby dx_jdk_42_method_3_code_4) _ ?_
    rw [len_of Sq45 Nq45]
    show Steps p.tables e below (s₁.setTop (mkF m 5 #[.val (.ref a1), .val (.ref b)] [(.int (0 : Int32)), (.int (0 : Int32)), (.ref b), (.ref a1)])) _
    refine XS.aconstNull X0.here hx rfl (hb hby dx_jdk_42_method_3_code_5) ?_
    show Steps p.tables e below (s₁.setTop (mkF m 6 #[.val (.ref a1), .val (.ref b)] [.null, (.int (0 : Int32)), (.int (0 : Int32)), (.ref b), (.ref a1)])) _
    refine st46.trans ?_
    show Steps p.tables e below (T46.setTop (mkF m 9 #[.val (.ref a1), .val (.ref b)] [])) _
    exact X46.returnOut hx Bd.returns (hb hby dx_jdk_42_method_3_code_9) hr
  · show Qsz Z G1 a1 b kc h0 n0 _ T46.heap _
    exact ⟨t_46, kb_46, rfl, N46, K0_47, f46_0, f46_1, f46_2, f46_3⟩
  · show CHr Z own_EL s.vm s.heap T46.vm T46.heap
    rw [hh]
    exact hFin
theorem dx_jdk_31_method_11_code_0 : decode jdk_31_method_11_code 0 = .ok (.aload_n 0, 1) := by decide +kernel
theorem dx_jdk_31_method_11_code_1 : decode jdk_31_method_11_code 1 = .ok (.ifnonnull 12, 3) := by decide +kernel
theorem dx_jdk_31_method_11_code_13 : decode jdk_31_method_11_code 13 = .ok (.aload_n 0, 1) := by decide +kernel
theorem dx_jdk_31_method_11_code_14 : decode jdk_31_method_11_code 14 = .ok (.areturn, 1) := by decide +kernel
def Qrnn (Z : State) (G1 : Int32) (a1 : Addr) (a2 : Addr) (h0 : Heap) (n0 : Nat) (v : Option Value) (h : Heap) (L : List Loc) : Prop := v = some (.ref a1) ∧ Fr n0 L ∧ h = h0
theorem ef_jdk_31_method_11_code_RR (m : MethodId) (x0 : Addr) (x1 : Addr) : entryFrame m #[(.ref x0), (.ref x1)] 2 = mkF m 0 #[.val (.ref x0), .val (.ref x1)] [] := by first | (simp [entryFrame, mkF, argsToLocals, Value.category]; done) | rfl
abbrev y6 : MethodName := ⟨"java/util/Objects", "requireNonNull", "(Ljava/lang/Object;Ljava/lang/String;)Ljava/lang/Object;"⟩
theorem pn_java_util_Objects : plainName "java/util/Objects" = true := by first | (simp [plainName, overriddenIn]; done) | decide +kernel
set_option maxRecDepth 65536 in
set_option maxHeartbeats 40000000 in
theorem rmrnn (l : Launch) (Z : State) (a0 : Array Value) (G1 : Int32) (hG : Glob Z a0 G1) (ws : List Jvm.Cond) (a1 : Addr) (a2 : Addr) (h0 : Heap) (n0 : Nat) (Z0 : n0 ≤ h0.size) (X00 : Old Z n0 h0) :
    MetFree l y6 (head1 (Jvm.Cond.code y6 jdk_31_method_11_code 2 (some (.object "java/lang/Object")) :: ws) ({ frames := 0, cells := 0, slots := 0, locals := 0 } : Room)) (fun a U => a = #[(.ref a1), (.ref a2)] ∧ Z.Warmed39 U.vm ∧ U.heap = h0) (fun _ _ _ _ _ => True) (fun _ U o U' => ∃ v L, o = .returned v ∧ Qrnn Z G1 a1 a2 h0 n0 v U'.heap L ∧ FrameEnd U o U' L ({ frames := 0, cells := 0, slots := 0, locals := 0 } : Room).cells ({ frames := 0, cells := 0, slots := 0, locals := 0 } : Room).slots) := by
  obtain ⟨hw, O_cs, P_cs⟩ := id hG
  have W : ∀ (i : Nat) {d : Jvm.Cond}, tables_1[i]? = some d → d.before a0 Z = true := fun i d h => hw d (List.mem_of_getElem? h)
  refine MetFree.of_bodySF (plainFor_of_name pn_java_util_Objects) hisR ?_
  intro p e s m args below meth c s₁ Bd hml0 hP hK
  obtain ⟨rfl, hZ, hh⟩ := hP
  have hx := Bd.exec
  have hby := Bd.bytes
  have hml : c.maxLocals = 2 := hml0
  have hown : s.vm.findClass "java/util/Objects" = some m.cls := findClass_of_methodNamed Bd.named
  have hnm := (name_of_methodNamed Bd.named Bd.method).1
  have X0 : Stand p l e ({ frames := 0, cells := 0, slots := 0, locals := 0 } : Room) s m #[(.ref a1), (.ref a2)] below meth c s₁ [] 0 0 := Stand.of_body Bd
  have e0 : s₁.heap = h0 := by rw [← hh, Bd.state]; rfl
  have N0 := Fr.nil n0
  have pre0 : ∀ t, Steps p.tables e below (s₁.setTop (mkF m 0 #[.val (.ref a1), .val (.ref a2)] [])) t → Steps p.tables e below (s₁.setTop (entryFrame m #[(.ref a1), (.ref a2)] 2)) t := fun t kk_ => castTop (ef_jdk_31_method_11_code_RR m a1 a2) kk_
  obtain ⟨fs, hr, hrun, hended, hW, hsame⟩ := X0.leave (v := some (.ref a1)) (fun h => by rw [Bd.returns] at h; cases h)
  refine ⟨_, _, pre0 _ ?_, hrun, hended, _, _, rfl, ?_, ⟨_, rfl⟩, hW, hsame.mono (Nat.le_of_ble_eq_true rfl) (Nat.le_of_ble_eq_true rfl)⟩
  · show Steps p.tables e below (s₁.setTop (mkF m 0 #[.val (.ref a1), .val (.ref a2)] [])) _
    refine XS.aloadN X0.here hx rfl (hb hby dx_jdk_31_method_11_code_0) rfl rfl ?_
    show Steps p.tables e below (s₁.setTop (mkF m 1 #[.val (.ref a1), .val (.ref a2)] [(.ref a1)])) _
    refine XS.ifnonnullYes X0.here hx rfl (pc0 := 1) (pc' := 13) rfl (hb hby dx_jdk_31_method_11_code_1) rfl (by decide) (by decide) ?_
    show Steps p.tables e below (s₁.setTop (mkF m 13 #[.val (.ref a1), .val (.ref a2)] [])) _
    refine XS.aloadN X0.here hx rfl (hb hby dx_jdk_31_method_11_code_13) rfl rfl ?_
    show Steps p.tables e below (s₁.setTop (mkF m 14 #[.val (.ref a1), .val (.ref a2)] [(.ref a1)])) _
    exact retOut X0 hx Bd.returns rfl (Or.inr (Or.inr (Or.inr (Or.inr ⟨rfl, rfl, rfl⟩)))) (hb hby dx_jdk_31_method_11_code_14) hr
  · show Qrnn Z G1 a1 a2 h0 n0 _ s₁.heap _
    rw [e0]
    exact ⟨rfl, N0, rfl⟩
theorem dx_method_2_code_0 : decode method_2_code 0 = .ok (.iload_n 1, 1) := by decide +kernel
theorem dx_method_2_code_1 : decode method_2_code 1 = .ok (.ldc 7, 2) := by decide +kernel
theorem dx_method_2_code_3 : decode method_2_code 3 = .ok (.iand, 1) := by decide +kernel
theorem dx_method_2_code_4 : decode method_2_code 4 = .ok (.iconst 3, 1) := by decide +kernel
theorem dx_method_2_code_5 : decode method_2_code 5 = .ok (.irem, 1) := by decide +kernel
theorem dx_method_2_code_6 : decode method_2_code 6 = .ok (.istore_n 2, 1) := by decide +kernel
theorem dx_method_2_code_7 : decode method_2_code 7 = .ok (.iload_n 0, 1) := by decide +kernel
theorem dx_method_2_code_8 : decode method_2_code 8 = .ok (.sipush 255, 3) := by decide +kernel
theorem dx_method_2_code_11 : decode method_2_code 11 = .ok (.iand, 1) := by decide +kernel
theorem dx_method_2_code_12 : decode method_2_code 12 = .ok (.i2c, 1) := by decide +kernel
theorem dx_method_2_code_13 : decode method_2_code 13 = .ok (.istore_n 3, 1) := by decide +kernel
theorem dx_method_2_code_14 : decode method_2_code 14 = .ok (.iload_n 0, 1) := by decide +kernel
theorem dx_method_2_code_15 : decode method_2_code 15 = .ok (.bipush 8, 2) := by decide +kernel
theorem dx_method_2_code_17 : decode method_2_code 17 = .ok (.iushr, 1) := by decide +kernel
theorem dx_method_2_code_18 : decode method_2_code 18 = .ok (.sipush 255, 3) := by decide +kernel
theorem dx_method_2_code_21 : decode method_2_code 21 = .ok (.iand, 1) := by decide +kernel
theorem dx_method_2_code_22 : decode method_2_code 22 = .ok (.i2c, 1) := by decide +kernel
theorem dx_method_2_code_23 : decode method_2_code 23 = .ok (.istore 4, 2) := by decide +kernel
theorem dx_method_2_code_25 : decode method_2_code 25 = .ok (.iload_n 2, 1) := by decide +kernel
theorem dx_method_2_code_26 : decode method_2_code 26 = .ok (.ifCond .ne 14, 3) := by decide +kernel
theorem dx_method_2_code_29 : decode method_2_code 29 = .ok (.new 8, 3) := by decide +kernel
theorem dx_method_2_code_32 : decode method_2_code 32 = .ok (.dup, 1) := by decide +kernel
theorem dx_method_2_code_33 : decode method_2_code 33 = .ok (.iconst 0, 1) := by decide +kernel
theorem dx_method_2_code_34 : decode method_2_code 34 = .ok (.newarray .char, 2) := by decide +kernel
theorem dx_method_2_code_36 : decode method_2_code 36 = .ok (.invokespecial 10, 3) := by decide +kernel
theorem pd___C_V : parseMethodDescriptor "([C)V" = some ⟨[(.array .char)], none⟩ := by decide +kernel
theorem dx_method_2_code_39 : decode method_2_code 39 = .ok (.areturn, 1) := by decide +kernel
theorem dx_method_2_code_40 : decode method_2_code 40 = .ok (.iload_n 2, 1) := by decide +kernel
theorem dx_method_2_code_41 : decode method_2_code 41 = .ok (.iconst 1, 1) := by decide +kernel
theorem dx_method_2_code_42 : decode method_2_code 42 = .ok (.if_icmp .ne 8, 3) := by decide +kernel
theorem dx_method_2_code_45 : decode method_2_code 45 = .ok (.iload_n 3, 1) := by decide +kernel
theorem dx_method_2_code_46 : decode method_2_code 46 = .ok (.invokestatic 13, 3) := by decide +kernel
theorem pd__C_Ljava_lang_String_ : parseMethodDescriptor "(C)Ljava/lang/String;" = some ⟨[.char], some (.object "java/lang/String")⟩ := by decide +kernel
theorem dx_method_2_code_49 : decode method_2_code 49 = .ok (.areturn, 1) := by decide +kernel
theorem dx_method_2_code_50 : decode method_2_code 50 = .ok (.iconst 2, 1) := by decide +kernel
theorem dx_method_2_code_51 : decode method_2_code 51 = .ok (.newarray .char, 2) := by decide +kernel
theorem dx_method_2_code_53 : decode method_2_code 53 = .ok (.astore 5, 2) := by decide +kernel
theorem dx_method_2_code_55 : decode method_2_code 55 = .ok (.aload 5, 2) := by decide +kernel
theorem dx_method_2_code_57 : decode method_2_code 57 = .ok (.iconst 0, 1) := by decide +kernel
theorem dx_method_2_code_58 : decode method_2_code 58 = .ok (.iload_n 3, 1) := by decide +kernel
theorem dx_method_2_code_59 : decode method_2_code 59 = .ok (.castore, 1) := by decide +kernel
theorem dx_method_2_code_60 : decode method_2_code 60 = .ok (.aload 5, 2) := by decide +kernel
theorem dx_method_2_code_62 : decode method_2_code 62 = .ok (.iconst 1, 1) := by decide +kernel
theorem dx_method_2_code_63 : decode method_2_code 63 = .ok (.iload 4, 2) := by decide +kernel
theorem dx_method_2_code_65 : decode method_2_code 65 = .ok (.castore, 1) := by decide +kernel
theorem dx_method_2_code_66 : decode method_2_code 66 = .ok (.new 8, 3) := by decide +kernel
theorem dx_method_2_code_69 : decode method_2_code 69 = .ok (.dup, 1) := by decide +kernel
theorem dx_method_2_code_70 : decode method_2_code 70 = .ok (.aload 5, 2) := by decide +kernel
theorem dx_method_2_code_72 : decode method_2_code 72 = .ok (.invokespecial 10, 3) := by decide +kernel
theorem dx_method_2_code_75 : decode method_2_code 75 = .ok (.areturn, 1) := by decide +kernel
def Qdraw (Z : State) (G1 : Int32) (pz : Int32) (q : Int32) (h0 : Heap) (n0 : Nat) (v : Option Value) (h : Heap) (L : List Loc) : Prop := ∃ b : Addr, v = some (.ref b) ∧ Fr n0 L ∧ Keep h0 h [] ∧ h0.size ≤ b ∧ Exa Z h b "java/lang/String"
theorem ef_method_2_code_II (m : MethodId) (x0 : Int32) (x1 : Int32) : entryFrame m #[(.int x0), (.int x1)] 6 = mkF m 0 #[.val (.int x0), .val (.int x1), .unset, .unset, .unset, .unset] [] := by first | (simp [entryFrame, mkF, argsToLocals, Value.category]; done) | rfl
abbrev y7 : MethodName := ⟨"com/example/larkbridge/larkbridge/mcp/McpResourceContentsTextPinLaw", "draw", "(II)Ljava/lang/String;"⟩
theorem pn_com_example_larkbridge_larkbridge_mcp_McpResourceContentsTextPinLaw : plainName "com/example/larkbridge/larkbridge/mcp/McpResourceContentsTextPinLaw" = true := by first | (simp [plainName, overriddenIn]; done) | decide +kernel
set_option maxRecDepth 65536 in
set_option maxHeartbeats 40000000 in
theorem rmdraw_0 (l : Launch) (Z : State) (a0 : Array Value) (G1 : Int32) (hG : Glob Z a0 G1) (ws : List Jvm.Cond) (pz : Int32) (q : Int32) (h0 : Heap) (n0 : Nat) (Z0 : n0 ≤ h0.size) (X00 : Old Z n0 h0) (hc26 : ((q &&& (2147483647 : Int32)) % (3 : Int32)) = (0 : Int32)) :
    MetFree l y7 (head1 (Jvm.Cond.code y7 method_2_code 6 (some (.object "java/lang/String")) :: ws) ({ frames := 4, cells := 6, slots := 12, locals := 66 } : Room)) (fun a U => a = #[(.int pz), (.int q)] ∧ Z.Warmed39 U.vm ∧ U.heap = h0 ∧ CHv Z own_EL U.vm h0) (fun _ _ _ _ _ => True) (fun _ U o U' => ∃ v L, o = .returned v ∧ Qdraw Z G1 pz q h0 n0 v U'.heap L ∧ CHr Z own_EL U.vm U.heap U'.vm U'.heap ∧ ReturnedEndW U o U' L ({ frames := 4, cells := 6, slots := 12, locals := 66 } : Room).cells ({ frames := 4, cells := 6, slots := 12, locals := 66 } : Room).slots) := by
  obtain ⟨hw, O_cs, P_cs⟩ := id hG
  have W : ∀ (i : Nat) {d : Jvm.Cond}, tables_1[i]? = some d → d.before a0 Z = true := fun i d h => hw d (List.mem_of_getElem? h)
  refine MetFree.of_bodySF (plainFor_of_name pn_com_example_larkbridge_larkbridge_mcp_McpResourceContentsTextPinLaw) hisR ?_
  intro p e s m args below meth c s₁ Bd hml0 hP hK
  obtain ⟨rfl, hZ, hh, hCH⟩ := hP
  have hx := Bd.exec
  have hby := Bd.bytes
  have hml : c.maxLocals = 6 := hml0
  have hown : s.vm.findClass "com/example/larkbridge/larkbridge/mcp/McpResourceContentsTextPinLaw" = some m.cls := findClass_of_methodNamed Bd.named
  have hnm := (name_of_methodNamed Bd.named Bd.method).1
  have X0 : Stand p l e ({ frames := 4, cells := 6, slots := 12, locals := 66 } : Room) (s.setVm s.vm) m #[(.int pz), (.int q)] below meth c s₁ [] 0 0 := Stand.of_body Bd
  have e0 : s₁.heap = h0 := by rw [← hh, Bd.state]; rfl
  have hS0 : s.Since s.vm h0.size := (State.WarmedH.refl s).since _
  have hk0 : h0.size ≤ h0.size := Nat.le_refl _
  have R0 : CHr Z own_EL s.vm h0 s.vm h0 := CHr.refl hCH
  have hEL := own_ew hw
  have N0 := Fr.nil n0
  have pre0 : ∀ t, Steps p.tables e below (s₁.setTop (mkF m 0 #[.val (.int pz), .val (.int q), .unset, .unset, .unset, .unset] [])) t → Steps p.tables e below (s₁.setTop (entryFrame m #[(.int pz), (.int q)] 6)) t := fun t kk_ => castTop (ef_method_2_code_II m pz q) kk_
  obtain ⟨T48, h48, X48, e48, E48, A48, D48, -, st48⟩ := newO X0 hx hZ hown (W 31 rfl) (W 15 rfl) (W 7 rfl) e0 (g := (mkF m 29 #[.val (.int pz), .val (.int q), .val (.int ((q &&& (2147483647 : Int32)) % (3 : Int32))), .val (.int ((pz &&& (255 : Int32)).toUInt32.toUInt16.toUInt32.toInt32)), .val (.int ((((pz.toUInt32 >>> ((8 : Int32) &&& 31).toUInt32).toInt32) &&& (255 : Int32)).toUInt32.toUInt16.toUInt32.toInt32)), .unset] [])) rfl (hb hby dx_method_2_code_29) (by decide) (by decide)
  obtain ⟨b48, g48⟩ : ∃ z, z = h0.size := ⟨_, rfl⟩
  rw [← g48] at A48 D48 st48
  have Z49 : n0 ≤ h48.size := Nat.le_trans Z0 E48.1
  have K0_49 : Keep h0 h48 [] := (Keep.refl h0 []).ext E48
  have O49 : Old Z n0 h48 := X00.ext E48
  have R49 : CHr Z own_EL s.vm h0 s.vm h48 := R0.trans (CHr.ext E48 R0.1)
  have hk49 : h0.size ≤ h48.size := Nat.le_trans hk0 E48.1
  have lo_b48 : h0.size ≤ b48 := Nat.le_of_eq g48.symm
  have g_b48 : n0 ≤ b48 := Nat.le_trans Z0 lo_b48
  have l0_b48 : h0.size ≤ b48 := Nat.le_trans (Keep.refl h0 []).1 lo_b48
  have F_value_b48 : Fld Z h48 b48 "java/lang/String" "value" "[B" .null := D48 (Or.inr (W 28 rfl)) (ty := (.array .byte)) (by decide)
  have F_coder_b48 : Fld Z h48 b48 "java/lang/String" "coder" "B" (.int (0 : Int32)) := D48 (Or.inr (W 30 rfl)) (ty := .byte) (by decide)
  obtain ⟨T50, h50, k50, X50, e50, E50, A50, st50⟩ := newP X48 hx hZ (W 32 rfl) e48 (g := (mkF m 34 #[.val (.int pz), .val (.int q), .val (.int ((q &&& (2147483647 : Int32)) % (3 : Int32))), .val (.int ((pz &&& (255 : Int32)).toUInt32.toUInt16.toUInt32.toInt32)), .val (.int ((((pz.toUInt32 >>> ((8 : Int32) &&& 31).toUInt32).toInt32) &&& (255 : Int32)).toUInt32.toUInt16.toUInt32.toInt32)), .unset] [(.int (0 : Int32)), (.ref b48), (.ref b48)])) rfl (hb hby dx_method_2_code_34) rfl (by decide) (cap := 0) (by decide) (by decide) (by decide) (by decide)
  obtain ⟨b50, g50⟩ : ∃ z, z = h48.size := ⟨_, rfl⟩
  rw [← g50] at A50 st50
  have Z51 : n0 ≤ h50.size := Nat.le_trans Z49 E50.1
  have K0_51 : Keep h0 h50 [] := K0_49.ext E50
  have O51 : Old Z n0 h50 := O49.ext E50
  have R51 : CHr Z own_EL s.vm h0 s.vm h50 := R49.trans (CHr.ext E50 R49.1)
  have hk51 : h0.size ≤ h50.size := Nat.le_trans hk49 E50.1
  have lo_b50 : h48.size ≤ b50 := Nat.le_of_eq g50.symm
  have g_b50 : n0 ≤ b50 := Nat.le_trans Z49 lo_b50
  have l0_b50 : h0.size ≤ b50 := Nat.le_trans K0_49.1 lo_b50
  have V_b50 : Arv Z h50 b50 k50 .char (0 : Int32) [] (.int (0 : Int32)) := (Arv.new A50 (by decide)).pad (pad_rep [] (.int (0 : Int32)) 0)
  have f53 := (A48.ext E50)
  have f54 := (F_value_b48.ext E50)
  have f55 := (F_coder_b48.ext E50)
  -- pc 36: java/lang/String.<init>
  obtain ⟨_, _, ⟨T52, L52, k52, n52⟩, -, X52, hS52, hG52, ⟨Lc52, hQ52, l52, y52, z52, hC52⟩, st52⟩ := X50.specialBackS hx (y := y5) rfl hown (mvT hZ (W 33 rfl)) (mvT hZ (W 34 rfl)) (mvT hZ (W 35 rfl)) (by decide) (backOfSH (s := s) (W := 1) (rmsz l Z a0 G1 hG [] b48 b50 k50 h50 n0 Z51 O51 f53 g_b48 f54 f55 V_b50) hZ (W 35 rfl) (W 7 rfl) (by decide) (by decide) hEL R51.1) (g := (mkF m 36 #[.val (.int pz), .val (.int q), .val (.int ((q &&& (2147483647 : Int32)) % (3 : Int32))), .val (.int ((pz &&& (255 : Int32)).toUInt32.toUInt16.toUInt32.toInt32)), .val (.int ((((pz.toUInt32 >>> ((8 : Int32) &&& 31).toUInt32).toInt32) &&& (255 : Int32)).toUInt32.toUInt16.toUInt32.toInt32)), .unset] [(.ref b50), (.ref b48), (.ref b48)])) rfl (by rw [hml]; rfl) (Steps.refl _) (a := b48) (argsL := [(.ref b50)]) (rest := [(.ref b48)]) (lenOf pd___C_V rfl) rfl (by show 2 * 0 + _ ≤ _; exact Nat.le_of_eq rfl) (hb hby dx_method_2_code_36) (fun _ _ => ⟨rfl, e50, (by decide : 2 + 4 ≤ _), (by decide : 4 + 8 ≤ _)⟩)
  dsimp only [Pt.U, Pt.locs, Pt.cells, Pt.slots] at X52 l52 y52 z52 st52 hQ52 hS52 hG52 hC52
  subst l52 y52 z52
  have hZ52 : Z.Warmed39 T52.vm := State.Warmed39.trans (t := s.setVm s.vm) hZ hS52.1
  have hw52 : T52.vm.findClass "com/example/larkbridge/larkbridge/mcp/McpResourceContentsTextPinLaw" = some m.cls := by rw [hS52.1.alike.findClass]; exact hown
  have hSn52 : s.Since T52.vm T52.heap.size := hS0.trans hS52 (Nat.le_trans hk51 (by have q := hG52; rw [e50] at q; exact q))
  have X52 : Stand p l e _ (s.setVm T52.vm) m _ below meth c T52 _ _ _ := X52
  obtain ⟨t_52, kb_52, rfl, N52q, K52, f52_0, f52_1, f52_2, f52_3⟩ := hQ52
  have N52 := Fr.app N0 N52q
  have Z56 : n0 ≤ T52.heap.size := Nat.le_trans Z51 K52.1
  have K0_56 : Keep h0 T52.heap [] := K0_51.trans K52 (allS (Or.inr l0_b48) all0)
  have O56 : Old Z n0 T52.heap := O51.keep K52 (allS g_b48 all0)
  have hkw52 : T52.heap.size ≤ T52.heap.size := Nat.le_refl _
  have Rb52 : CHr Z own_EL s.vm h0 T52.vm T52.heap := R51.trans hC52
  obtain ⟨fs, hr, hrun, hended, hend⟩ := Jvm.Stand.leaveW (v := some (.ref b48)) X52 hSn52 hkw52 (fun h => by rw [Bd.returns] at h; cases h)
  have hFin := Rb52.trans (CHv.at X52 hZ52 hEL Rb52.1)
  refine ⟨_, _, pre0 _ ?_, hrun, hended, _, _, rfl, ?_, ?_, own_mono hend (Nat.le_of_ble_eq_true rfl) (Nat.le_of_ble_eq_true rfl)⟩
  · show Steps p.tables e below (s₁.setTop (mkF m 0 #[.val (.int pz), .val (.int q), .unset, .unset, .unset, .unset] [])) _
    refine XS.iloadN X0.here hx rfl (hb hby dx_method_2_code_0) rfl ?_
    show Steps p.tables e below (s₁.setTop (mkF m 1 #[.val (.int pz), .val (.int q), .unset, .unset, .unset, .unset] [(.int q)])) _
    refine X0.ldcInt hx hown (mvT hZ (W 4 rfl)) (g := (mkF m 1 #[.val (.int pz), .val (.int q), .unset, .unset, .unset, .unset] [(.int q)])) rfl (hb hby dx_method_2_code_1) _ ?_
    show Steps p.tables e below (s₁.setTop (mkF m 3 #[.val (.int pz), .val (.int q), .unset, .unset, .unset, .unset] [(.int (2147483647 : Int32)), (.int q)])) _
    refine XS.iand X0.here hx rfl (hb hby dx_method_2_code_3) rfl ?_
    show Steps p.tables e below (s₁.setTop (mkF m 4 #[.val (.int pz), .val (.int q), .unset, .unset, .unset, .unset] [(.int (q &&& (2147483647 : Int32)))])) _
    refine XS.iconst X0.here hx rfl (hb hby dx_method_2_code_4) ?_
    show Steps p.tables e below (s₁.setTop (mkF m 5 #[.val (.int pz), .val (.int q), .unset, .unset, .unset, .unset] [(.int (3 : Int32)), (.int (q &&& (2147483647 : Int32)))])) _
    refine iremM (g := (mkF m 5 #[.val (.int pz), .val (.int q), .unset, .unset, .unset, .unset] [(.int (3 : Int32)), (.int (q &&& (2147483647 : Int32)))])) X0 hx rfl (hb hby dx_method_2_code_5) rfl (by decide) ?_
    show Steps p.tables e below (s₁.setTop (mkF m 6 #[.val (.int pz), .val (.int q), .unset, .unset, .unset, .unset] [(.int ((q &&& (2147483647 : Int32)) % (3 : Int32)))])) _
    refine XS.istoreN X0.here hx rfl (hb hby dx_method_2_code_6) rfl (l' := #[.val (.int pz), .val (.int q), .val (.int ((q &&& (2147483647 : Int32)) % (3 : Int32))), .unset, .unset, .unset]) rfl ?_
    show Steps p.tables e below (s₁.setTop (mkF m 7 #[.val (.int pz), .val (.int q), .val (.int ((q &&& (2147483647 : Int32)) % (3 : Int32))), .unset, .unset, .unset] [])) _
    refine XS.iloadN X0.here hx rfl (hb hby dx_method_2_code_7) rfl ?_
    show Steps p.tables e below (s₁.setTop (mkF m 8 #[.val (.int pz), .val (.int q), .val (.int ((q &&& (2147483647 : Int32)) % (3 : Int32))), .unset, .unset, .unset] [(.int pz)])) _
    refine XS.sipush X0.here hx rfl (hb hby dx_method_2_code_8) ?_
    show Steps p.tables e below (s₁.setTop (mkF m 11 #[.val (.int pz), .val (.int q), .val (.int ((q &&& (2147483647 : Int32)) % (3 : Int32))), .unset, .unset, .unset] [(.int (255 : Int32)), (.int pz)])) _
    refine XS.iand X0.here hx rfl (hb hby dx_method_2_code_11) rfl ?_
    show Steps p.tables e below (s₁.setTop (mkF m 12 #[.val (.int pz), .val (.int q), .val (.int ((q &&& (2147483647 : Int32)) % (3 : Int32))), .unset, .unset, .unset] [(.int (pz &&& (255 : Int32)))])) _
    refine XS.i2c X0.here hx rfl (hb hby dx_method_2_code_12) rfl ?_
    show Steps p.tables e below (s₁.setTop (mkF m 13 #[.val (.int pz), .val (.int q), .val (.int ((q &&& (2147483647 : Int32)) % (3 : Int32))), .unset, .unset, .unset] [(.int ((pz &&& (255 : Int32)).toUInt32.toUInt16.toUInt32.toInt32))])) _
    refine XS.istoreN X0.here hx rfl (hb hby dx_method_2_code_13) rfl (l' := #[.val (.int pz), .val (.int q), .val (.int ((q &&& (2147483647 : Int32)) % (3 : Int32))), .val (.int ((pz &&& (255 : Int32)).toUInt32.toUInt16.toUInt32.toInt32)), .unset, .unset]) rfl ?_
    show Steps p.tables e below (s₁.setTop (mkF m 14 #[.val (.int pz), .val (.int q), .val (.int ((q &&& (2147483647 : Int32)) % (3 : Int32))), .val (.int ((pz &&& (255 : Int32)).toUInt32.toUInt16.toUInt32.toInt32)), .unset, .unset] [])) _
    refine XS.iloadN X0.here hx rfl (hb hby dx_method_2_code_14) rfl ?_
    show Steps p.tables e below (s₁.setTop (mkF m 15 #[.val (.int pz), .val (.int q), .val (.int ((q &&& (2147483647 : Int32)) % (3 : Int32))), .val (.int ((pz &&& (255 : Int32)).toUInt32.toUInt16.toUInt32.toInt32)), .unset, .unset] [(.int pz)])) _
    refine XS.bipush X0.here hx rfl (hb hby dx_method_2_code_15) ?_
    show Steps p.tables e below (s₁.setTop (mkF m 17 #[.val (.int pz), .val (.int q), .val (.int ((q &&& (2147483647 : Int32)) % (3 : Int32))), .val (.int ((pz &&& (255 : Int32)).toUInt32.toUInt16.toUInt32.toInt32)), .unset, .unset] [(.int (8 : Int32)), (.int pz)])) _
    refine XS.iushr X0.here hx rfl (hb hby dx_method_2_code_17) rfl ?_
    show Steps p.tables e below (s₁.setTop (mkF m 18 #[.val (.int pz), .val (.int q), .val (.int ((q &&& (2147483647 : Int32)) % (3 : Int32))), .val (.int ((pz &&& (255 : Int32)).toUInt32.toUInt16.toUInt32.toInt32)), .unset, .unset] [(.int ((pz.toUInt32 >>> ((8 : Int32) &&& 31).toUInt32).toInt32))])) _
    refine XS.sipush X0.here hx rfl (hb hby dx_method_2_code_18) ?_
    show Steps p.tables e below (s₁.setTop (mkF m 21 #[.val (.int pz), .val (.int q), .val (.int ((q &&& (2147483647 : Int32)) % (3 : Int32))), .val (.int ((pz &&& (255 : Int32)).toUInt32.toUInt16.toUInt32.toInt32)), .unset, .unset] [(.int (255 : Int32)), (.int ((pz.toUInt32 >>> ((8 : Int32) &&& 31).toUInt32).toInt32))])) _
    refine XS.iand X0.here hx rfl (hb hby dx_method_2_code_21) rfl ?_
    show Steps p.tables e below (s₁.setTop (mkF m 22 #[.val (.int pz), .val (.int q), .val (.int ((q &&& (2147483647 : Int32)) % (3 : Int32))), .val (.int ((pz &&& (255 : Int32)).toUInt32.toUInt16.toUInt32.toInt32)), .unset, .unset] [(.int (((pz.toUInt32 >>> ((8 : Int32) &&& 31).toUInt32).toInt32) &&& (255 : Int32)))])) _
    refine XS.i2c X0.here hx rfl (hb hby dx_method_2_code_22) rfl ?_
    show Steps p.tables e below (s₁.setTop (mkF m 23 #[.val (.int pz), .val (.int q), .val (.int ((q &&& (2147483647 : Int32)) % (3 : Int32))), .val (.int ((pz &&& (255 : Int32)).toUInt32.toUInt16.toUInt32.toInt32)), .unset, .unset] [(.int ((((pz.toUInt32 >>> ((8 : Int32) &&& 31).toUInt32).toInt32) &&& (255 : Int32)).toUInt32.toUInt16.toUInt32.toInt32))])) _
    refine XS.istore X0.here hx rfl (hb hby dx_method_2_code_23) rfl (l' := #[.val (.int pz), .val (.int q), .val (.int ((q &&& (2147483647 : Int32)) % (3 : Int32))), .val (.int ((pz &&& (255 : Int32)).toUInt32.toUInt16.toUInt32.toInt32)), .val (.int ((((pz.toUInt32 >>> ((8 : Int32) &&& 31).toUInt32).toInt32) &&& (255 : Int32)).toUInt32.toUInt16.toUInt32.toInt32)), .unset]) rfl ?_
    show Steps p.tables e below (s₁.setTop (mkF m 25 #[.val (.int pz), .val (.int q), .val (.int ((q &&& (2147483647 : Int32)) % (3 : Int32))), .val (.int ((pz &&& (255 : Int32)).toUInt32.toUInt16.toUInt32.toInt32)), .val (.int ((((pz.toUInt32 >>> ((8 : Int32) &&& 31).toUInt32).toInt32) &&& (255 : Int32)).toUInt32.toUInt16.toUInt32.toInt32)), .unset] [])) _
    refine XS.iloadN X0.here hx rfl (hb hby dx_method_2_code_25) rfl ?_
    show Steps p.tables e below (s₁.setTop (mkF m 26 #[.val (.int pz), .val (.int q), .val (.int ((q &&& (2147483647 : Int32)) % (3 : Int32))), .val (.int ((pz &&& (255 : Int32)).toUInt32.toUInt16.toUInt32.toInt32)), .val (.int ((((pz.toUInt32 >>> ((8 : Int32) &&& 31).toUInt32).toInt32) &&& (255 : Int32)).toUInt32.toUInt16.toUInt32.toInt32)), .unset] [(.int ((q &&& (2147483647 : Int32)) % (3 : Int32)))])) _
    refine XS.ifNo X0.here hx rfl (hb hby dx_method_2_code_26) rfl ((if0 _ _).trans (teq (hc26 : ((q &&& (2147483647 : Int32)) % (3 : Int32)) = (0 : Int32))).2) ?_
    show Steps p.tables e below (s₁.setTop (mkF m 29 #[.val (.int pz), .val (.int q), .val (.int ((q &&& (2147483647 : Int32)) % (3 : Int32))), .val (.int ((pz &&& (255 : Int32)).toUInt32.toUInt16.toUInt32.toInt32)), .val (.int ((((pz.toUInt32 >>> ((8 : Int32) &&& 31).toUInt32).toInt32) &&& (255 : Int32)).toUInt32.toUInt16.toUInt32.toInt32)), .unset] [])) _
    refine st48 _ ?_
    show Steps p.tables e below (T48.setTop (mkF m 32 #[.val (.int pz), .val (.int q), .val (.int ((q &&& (2147483647 : Int32)) % (3 : Int32))), .val (.int ((pz &&& (255 : Int32)).toUInt32.toUInt16.toUInt32.toInt32)), .val (.int ((((pz.toUInt32 >>> ((8 : Int32) &&& 31).toUInt32).toInt32) &&& (255 : Int32)).toUInt32.toUInt16.toUInt32.toInt32)), .unset] [(.ref b48)])) _
    refine XS.dup X48.here hx rfl (hb hby dx_method_2_code_32) rfl rfl ?_
    show Steps p.tables e below (T48.setTop (mkF m 33 #[.val (.int pz), .val (.int q), .val (.int ((q &&& (2147483647 : Int32)) % (3 : Int32))), .val (.int ((pz &&& (255 : Int32)).toUInt32.toUInt16.toUInt32.toInt32)), .val (.int ((((pz.toUInt32 >>> ((8 : Int32) &&& 31).toUInt32).toInt32) &&& (255 : Int32)).toUInt32.toUInt16.toUInt32.toInt32)), .unset] [(.ref b48), (.ref b48)])) _
    refine XS.iconst X48.here hx rfl (hb hby dx_method_2_code_33) ?_
    show Steps p.tables e below (T48.setTop (mkF m 34 #[.val (.int pz), .val (.int q), .val (.int ((q &&& (2147483647 : Int32)) % (3 : Int32))), .val (.int ((pz &&& (255 : Int32)).toUInt32.toUInt16.toUInt32.toInt32)), .val (.int ((((pz.toUInt32 >>> ((8 : Int32) &&& 31).toUInt32).toInt32) &&& (255 : Int32)).toUInt32.toUInt16.toUInt32.toInt32)), .unset] [(.int (0 : Int32)), (.ref b48), (.ref b48)])) _
    refine st50 _ ?_
    show Steps p.tables e below (T50.setTop (mkF m 36 #[.val (.int pz), .val (.int q), .val (.int ((q &&& (2147483647 : Int32)) % (3 : Int32))), .val (.int ((pz &&& (255 : Int32)).toUInt32.toUInt16.toUInt32.toInt32)), .val (.int ((((pz.toUInt32 >>> ((8 : Int32) &&& 31).toUInt32).toInt32) &&& (255 : Int32)).toUInt32.toUInt16.toUInt32.toInt32)), .unset] [(.ref b50), (.ref b48), (.ref b48)])) _
    refine st52.trans ?_
    show Steps p.tables e below (T52.setTop (mkF m 39 #[.val (.int pz), .val (.int q), .val (.int ((q &&& (2147483647 : Int32)) % (3 : Int32))), .val (.int ((pz &&& (255 : Int32)).toUInt32.toUInt16.toUInt32.toInt32)), .val (.int ((((pz.toUInt32 >>> ((8 : Int32) &&& 31).toUInt32).toInt32) &&& (255 : Int32)).toUInt32.toUInt16.toUInt32.toInt32)), .unset] [(.ref b48)])) _
    exact retOut X52 hx Bd.returns rfl (Or.inr (Or.inr (Or.inr (Or.inr ⟨rfl, rfl, rfl⟩)))) (hb hby dx_method_2_code_39) hr
  · show Qdraw Z G1 pz q h0 n0 _ T52.heap _
    exact ⟨b48, rfl, N52, K0_56, l0_b48, f52_0⟩
  · show CHr Z own_EL s.vm s.heap T52.vm T52.heap
    rw [hh]
    exact hFin
set_option maxRecDepth 65536 in
set_option maxHeartbeats 40000000 in
theorem rmdraw_1 (l : Launch) (Z : State) (a0 : Array Value) (G1 : Int32) (hG : Glob Z a0 G1) (ws : List Jvm.Cond) (pz : Int32) (q : Int32) (h0 : Heap) (n0 : Nat) (Z0 : n0 ≤ h0.size) (X00 : Old Z n0 h0) (hc26 : ¬ (((q &&& (2147483647 : Int32)) % (3 : Int32)) = (0 : Int32))) (hc42 : ((q &&& (2147483647 : Int32)) % (3 : Int32)) = (1 : Int32)) :
    MetFree l y7 (head1 (Jvm.Cond.code y7 method_2_code 6 (some (.object "java/lang/String")) :: ws) ({ frames := 4, cells := 6, slots := 12, locals := 66 } : Room)) (fun a U => a = #[(.int pz), (.int q)] ∧ Z.Warmed39 U.vm ∧ U.heap = h0 ∧ CHv Z own_EL U.vm h0) (fun _ _ _ _ _ => True) (fun _ U o U' => ∃ v L, o = .returned v ∧ Qdraw Z G1 pz q h0 n0 v U'.heap L ∧ CHr Z own_EL U.vm U.heap U'.vm U'.heap ∧ ReturnedEndW U o U' L ({ frames := 4, cells := 6, slots := 12, locals := 66 } : Room).cells ({ frames := 4, cells := 6, slots := 12, locals := 66 } : Room).slots) := by
  obtain ⟨hw, O_cs, P_cs⟩ := id hG
  have W : ∀ (i : Nat) {d : Jvm.Cond}, tables_1[i]? = some d → d.before a0 Z = true := fun i d h => hw d (List.mem_of_getElem? h)
  refine MetFree.of_bodySF (plainFor_of_name pn_com_example_larkbridge_larkbridge_mcp_McpResourceContentsTextPinLaw) hisR ?_
  intro p e s m args below meth c s₁ Bd hml0 hP hK
  obtain ⟨rfl, hZ, hh, hCH⟩ := hP
  have hx := Bd.exec
  have hby := Bd.bytes
  have hml : c.maxLocals = 6 := hml0
  have hown : s.vm.findClass "com/example/larkbridge/larkbridge/mcp/McpResourceContentsTextPinLaw" = some m.cls := findClass_of_methodNamed Bd.named
  have hnm := (name_of_methodNamed Bd.named Bd.method).1
  have X0 : Stand p l e ({ frames := 4, cells := 6, slots := 12, locals := 66 } : Room) (s.setVm s.vm) m #[(.int pz), (.int q)] below meth c s₁ [] 0 0 := Stand.of_body Bd
  have e0 : s₁.heap = h0 := by rw [← hh, Bd.state]; rfl
  have hS0 : s.Since s.vm h0.size := (State.WarmedH.refl s).since _
  have hk0 : h0.size ≤ h0.size := Nat.le_refl _
  have R0 : CHr Z own_EL s.vm h0 s.vm h0 := CHr.refl hCH
  have hEL := own_ew hw
  have N0 := Fr.nil n0
  have pre0 : ∀ t, Steps p.tables e below (s₁.setTop (mkF m 0 #[.val (.int pz), .val (.int q), .unset, .unset, .unset, .unset] [])) t → Steps p.tables e below (s₁.setTop (entryFrame m #[(.int pz), (.int q)] 6)) t := fun t kk_ => castTop (ef_method_2_code_II m pz q) kk_
  -- pc 46: java/lang/String.valueOf
  obtain ⟨_, _, ⟨T57, L57, k57, n57⟩, -, X57, ⟨Lc57, hQ57, l57, y57, z57⟩, st57⟩ := Jvm.LawKit.callS X0 hx (y := y3) hown (mvT hZ (W 5 rfl)) (mvT hZ (W 6 rfl)) (mvT hZ (W 7 rfl)) (mvT hZ (W 8 rfl)) (by decide) (backOf (W := 0) (rmvo l Z a0 G1 hG [] ((pz &&& (255 : Int32)).toUInt32.toUInt16.toUInt32.toInt32) h0 n0 Z0 X00 ((own_okc _).2.2)) hZ (W 8 rfl) (W 7 rfl) (by decide) (by decide)) (g := (mkF m 46 #[.val (.int pz), .val (.int q), .val (.int ((q &&& (2147483647 : Int32)) % (3 : Int32))), .val (.int ((pz &&& (255 : Int32)).toUInt32.toUInt16.toUInt32.toInt32)), .val (.int ((((pz.toUInt32 >>> ((8 : Int32) &&& 31).toUInt32).toInt32) &&& (255 : Int32)).toUInt32.toUInt16.toUInt32.toInt32)), .unset] [(.int ((pz &&& (255 : Int32)).toUInt32.toUInt16.toUInt32.toInt32))])) rfl (by rw [hml]; rfl) (argsL := [(.int ((pz &&& (255 : Int32)).toUInt32.toUInt16.toUInt32.toInt32))]) (rest := []) (lenOf pd__C_Ljava_lang_String_ rfl) rfl (by show 2 * 0 + _ ≤ _; exact Nat.le_of_eq rfl) (hb hby dx_method_2_code_46) (fun _ _ => ⟨rfl, e0, (by decide : 0 + 2 ≤ _), (by decide : 0 + 5 ≤ _)⟩)
  dsimp only [Pt.U, Pt.locs, Pt.cells, Pt.slots] at X57 l57 y57 z57 st57 hQ57
  subst l57 y57 z57
  obtain ⟨b_57, rfl, N57q, K57, f57_0, f57_1⟩ := hQ57
  have N57 := Fr.app N0 N57q
  have Z58 : n0 ≤ T57.heap.size := Nat.le_trans Z0 K57.1
  have K0_58 : Keep h0 T57.heap [] := (Keep.refl h0 []).trans K57 all0
  have O58 : Old Z n0 T57.heap := X00.keep K57 all0
  have R58 : CHr Z own_EL s.vm h0 s.vm T57.heap := R0.trans (CHr.keep K57 sf0 R0.1)
  have hk58 : h0.size ≤ T57.heap.size := Nat.le_trans hk0 K57.1
  have lo_b_57 : h0.size ≤ b_57 := f57_0
  have g_b_57 : n0 ≤ b_57 := Nat.le_trans Z0 lo_b_57
  have l0_b_57 : h0.size ≤ b_57 := Nat.le_trans (Keep.refl h0 []).1 lo_b_57
  obtain ⟨fs, hr, hrun, hended, hend⟩ := Jvm.Stand.leaveW (v := some (.ref b_57)) X57 hS0 hk58 (fun h => by rw [Bd.returns] at h; cases h)
  have hFin := R58.trans (CHv.at X57 hZ hEL R58.1)
  refine ⟨_, _, pre0 _ ?_, hrun, hended, _, _, rfl, ?_, ?_, own_mono hend (Nat.le_of_ble_eq_true rfl) (Nat.le_of_ble_eq_true rfl)⟩
  · show Steps p.tables e below (s₁.setTop (mkF m 0 #[.val (.int pz), .val (.int q), .unset, .unset, .unset, .unset] [])) _
    refine XS.iloadN X0.here hx rfl (hb hby dx_method_2_code_0) rfl ?_
    show Steps p.tables e below (s₁.setTop (mkF m 1 #[.val (.int pz), .val (.int q), .unset, .unset, .unset, .unset] [(.int q)])) _
    refine X0.ldcInt hx hown (mvT hZ (W 4 rfl)) (g := (mkF m 1 #[.val (.int pz), .val (.int q), .unset, .unset, .unset, .unset] [(.int q)])) rfl (hb hby dx_method_2_code_1) _ ?_
    show Steps p.tables e below (s₁.setTop (mkF m 3 #[.val (.int pz), .val (.int q), .unset, .unset, .unset, .unset] [(.int (2147483647 : Int32)), (.int q)])) _
    refine XS.iand X0.here hx rfl (hb hby dx_method_2_code_3) rfl ?_
    show Steps p.tables e below (s₁.setTop (mkF m 4 #[.val (.int pz), .val (.int q), .unset, .unset, .unset, .unset] [(.int (q &&& (2147483647 : Int32)))])) _
    refine XS.iconst X0.here hx rfl (hb hby dx_method_2_code_4) ?_
    show Steps p.tables e below (s₁.setTop (mkF m 5 #[.val (.int pz), .val (.int q), .unset, .unset, .unset, .unset] [(.int (3 : Int32)), (.int (q &&& (2147483647 : Int32)))])) _
    refine iremM (g := (mkF m 5 #[.val (.int pz), .val (.int q), .unset, .unset, .unset, .unset] [(.int (3 : Int32)), (.int (q &&& (2147483647 : Int32)))])) X0 hx rfl (hb hby dx_method_2_code_5) rfl (by decide) ?_
    show Steps p.tables e below (s₁.setTop (mkF m 6 #[.val (.int pz), .val (.int q), .unset, .unset, .unset, .unset] [(.int ((q &&& (2147483647 : Int32)) % (3 : Int32)))])) _
    refine XS.istoreN X0.here hx rfl (hb hby dx_method_2_code_6) rfl (l' := #[.val (.int pz), .val (.int q), .val (.int ((q &&& (2147483647 : Int32)) % (3 : Int32))), .unset, .unset, .unset]) rfl ?_
    show Steps p.tables e below (s₁.setTop (mkF m 7 #[.val (.int pz), .val (.int q), .val (.int ((q &&& (2147483647 : Int32)) % (3 : Int32))), .unset, .unset, .unset] [])) _
    refine XS.iloadN X0.here hx rfl (hb hby dx_method_2_code_7) rfl ?_
    show Steps p.tables e below (s₁.setTop (mkF m 8 #[.val (.int pz), .val (.int q), .val (.int ((q &&& (2147483647 : Int32)) % (3 : Int32))), .unset, .unset, .unset] [(.int pz)])) _
    refine XS.sipush X0.here hx rfl (hb hby dx_method_2_code_8) ?_
    show Steps p.tables e below (s₁.setTop (mkF m 11 #[.val (.int pz), .val (.int q), .val (.int ((q &&& (2147483647 : Int32)) % (3 : Int32))), .unset, .unset, .unset] [(.int (255 : Int32)), (.int pz)])) _
    refine XS.iand X0.here hx rfl (hb hby dx_method_2_code_11) rfl ?_
    show Steps p.tables e below (s₁.setTop (mkF m 12 #[.val (.int pz), .val (.int q), .val (.int ((q &&& (2147483647 : Int32)) % (3 : Int32))), .unset, .unset, .unset] [(.int (pz &&& (255 : Int32)))])) _
    refine XS.i2c X0.here hx rfl (hb hby dx_method_2_code_12) rfl ?_
    show Steps p.tables e below (s₁.setTop (mkF m 13 #[.val (.int pz), .val (.int q), .val (.int ((q &&& (2147483647 : Int32)) % (3 : Int32))), .unset, .unset, .unset] [(.int ((pz &&& (255 : Int32)).toUInt32.toUInt16.toUInt32.toInt32))])) _
    refine XS.istoreN X0.here hx rfl (hb hby dx_method_2_code_13) rfl (l' := #[.val (.int pz), .val (.int q), .val (.int ((q &&& (2147483647 : Int32)) % (3 : Int32))), .val (.int ((pz &&& (255 : Int32)).toUInt32.toUInt16.toUInt32.toInt32)), .unset, .unset]) rfl ?_
    show Steps p.tables e below (s₁.setTop (mkF m 14 #[.val (.int pz), .val (.int q), .val (.int ((q &&& (2147483647 : Int32)) % (3 : Int32))), .val (.int ((pz &&& (255 : Int32)).toUInt32.toUInt16.toUInt32.toInt32)), .unset, .unset] [])) _
    refine XS.iloadN X0.here hx rfl (hb hby dx_method_2_code_14) rfl ?_
    show Steps p.tables e below (s₁.setTop (mkF m 15 #[.val (.int pz), .val (.int q), .val (.int ((q &&& (2147483647 : Int32)) % (3 : Int32))), .val (.int ((pz &&& (255 : Int32)).toUInt32.toUInt16.toUInt32.toInt32)), .unset, .unset] [(.int pz)])) _
    refine XS.bipush X0.here hx rfl (hb hby dx_method_2_code_15) ?_
    show Steps p.tables e below (s₁.setTop (mkF m 17 #[.val (.int pz), .val (.int q), .val (.int ((q &&& (2147483647 : Int32)) % (3 : Int32))), .val (.int ((pz &&& (255 : Int32)).toUInt32.toUInt16.toUInt32.toInt32)), .unset, .unset] [(.int (8 : Int32)), (.int pz)])) _
    refine XS.iushr X0.here hx rfl (hb hby dx_method_2_code_17) rfl ?_
    show Steps p.tables e below (s₁.setTop (mkF m 18 #[.val (.int pz), .val (.int q), .val (.int ((q &&& (2147483647 : Int32)) % (3 : Int32))), .val (.int ((pz &&& (255 : Int32)).toUInt32.toUInt16.toUInt32.toInt32)), .unset, .unset] [(.int ((pz.toUInt32 >>> ((8 : Int32) &&& 31).toUInt32).toInt32))])) _
    refine XS.sipush X0.here hx rfl (hb hby dx_method_2_code_18) ?_
    show Steps p.tables e below (s₁.setTop (mkF m 21 #[.val (.int pz), .val (.int q), .val (.int ((q &&& (2147483647 : Int32)) % (3 : Int32))), .val (.int ((pz &&& (255 : Int32)).toUInt32.toUInt16.toUInt32.toInt32)), .unset, .unset] [(.int (255 : Int32)), (.int ((pz.toUInt32 >>> ((8 : Int32) &&& 31).toUInt32).toInt32))])) _
    refine XS.iand X0.here hx rfl (hb hby dx_method_2_code_21) rfl ?_
    show Steps p.tables e below (s₁.setTop (mkF m 22 #[.val (.int pz), .val (.int q), .val (.int ((q &&& (2147483647 : Int32)) % (3 : Int32))), .val (.int ((pz &&& (255 : Int32)).toUInt32.toUInt16.toUInt32.toInt32)), .unset, .unset] [(.int (((pz.toUInt32 >>> ((8 : Int32) &&& 31).toUInt32).toInt32) &&& (255 : Int32)))])) _
    refine XS.i2c X0.here hx rfl (hb hby dx_method_2_code_22) rfl ?_
    show Steps p.tables e below (s₁.setTop (mkF m 23 #[.val (.int pz), .val (.int q), .val (.int ((q &&& (2147483647 : Int32)) % (3 : Int32))), .val (.int ((pz &&& (255 : Int32)).toUInt32.toUInt16.toUInt32.toInt32)), .unset, .unset] [(.int ((((pz.toUInt32 >>> ((8 : Int32) &&& 31).toUInt32).toInt32) &&& (255 : Int32)).toUInt32.toUInt16.toUInt32.toInt32))])) _
    refine XS.istore X0.here hx rfl (hb hby dx_method_2_code_23) rfl (l' := #[.val (.int pz), .val (.int q), .val (.int ((q &&& (2147483647 : Int32)) % (3 : Int32))), .val (.int ((pz &&& (255 : Int32)).toUInt32.toUInt16.toUInt32.toInt32)), .val (.int ((((pz.toUInt32 >>> ((8 : Int32) &&& 31).toUInt32).toInt32) &&& (255 : Int32)).toUInt32.toUInt16.toUInt32.toInt32)), .unset]) rfl ?_
    show Steps p.tables e below (s₁.setTop (mkF m 25 #[.val (.int pz), .val (.int q), .val (.int ((q &&& (2147483647 : Int32)) % (3 : Int32))), .val (.int ((pz &&& (255 : Int32)).toUInt32.toUInt16.toUInt32.toInt32)), .val (.int ((((pz.toUInt32 >>> ((8 : Int32) &&& 31).toUInt32).toInt32) &&& (255 : Int32)).toUInt32.toUInt16.toUInt32.toInt32)), .unset] [])) _
    refine XS.iloadN X0.here hx rfl (hb hby dx_method_2_code_25) rfl ?_
    show Steps p.tables e below (s₁.setTop (mkF m 26 #[.val (.int pz), .val (.int q), .val (.int ((q &&& (2147483647 : Int32)) % (3 : Int32))), .val (.int ((pz &&& (255 : Int32)).toUInt32.toUInt16.toUInt32.toInt32)), .val (.int ((((pz.toUInt32 >>> ((8 : Int32) &&& 31).toUInt32).toInt32) &&& (255 : Int32)).toUInt32.toUInt16.toUInt32.toInt32)), .unset] [(.int ((q &&& (2147483647 : Int32)) % (3 : Int32)))])) _
    refine XS.ifYes X0.here hx rfl (pc0 := 26) (pc' := 40) rfl (hb hby dx_method_2_code_26) rfl ((if0 _ _).trans (feq (hc26 : ¬ (((q &&& (2147483647 : Int32)) % (3 : Int32)) = (0 : Int32)))).2) (by decide) (by decide) ?_
    show Steps p.tables e below (s₁.setTop (mkF m 40 #[.val (.int pz), .val (.int q), .val (.int ((q &&& (2147483647 : Int32)) % (3 : Int32))), .val (.int ((pz &&& (255 : Int32)).toUInt32.toUInt16.toUInt32.toInt32)), .val (.int ((((pz.toUInt32 >>> ((8 : Int32) &&& 31).toUInt32).toInt32) &&& (255 : Int32)).toUInt32.toUInt16.toUInt32.toInt32)), .unset] [])) _
    refine XS.iloadN X0.here hx rfl (hb hby dx_method_2_code_40) rfl ?_
    show Steps p.tables e below (s₁.setTop (mkF m 41 #[.val (.int pz), .val (.int q), .val (.int ((q &&& (2147483647 : Int32)) % (3 : Int32))), .val (.int ((pz &&& (255 : Int32)).toUInt32.toUInt16.toUInt32.toInt32)), .val (.int ((((pz.toUInt32 >>> ((8 : Int32) &&& 31).toUInt32).toInt32) &&& (255 : Int32)).toUInt32.toUInt16.toUInt32.toInt32)), .unset] [(.int ((q &&& (2147483647 : Int32)) % (3 : Int32)))])) _
    refine XS.iconst X0.here hx rfl (hb hby dx_method_2_code_41) ?_
    show Steps p.tables e below (s₁.setTop (mkF m 42 #[.val (.int pz), .val (.int q), .val (.int ((q &&& (2147483647 : Int32)) % (3 : Int32))), .val (.int ((pz &&& (255 : Int32)).toUInt32.toUInt16.toUInt32.toInt32)), .val (.int ((((pz.toUInt32 >>> ((8 : Int32) &&& 31).toUInt32).toInt32) &&& (255 : Int32)).toUInt32.toUInt16.toUInt32.toInt32)), .unset] [(.int (1 : Int32)), (.int ((q &&& (2147483647 : Int32)) % (3 : Int32)))])) _
    refine XS.icmpNo X0.here hx rfl (hb hby dx_method_2_code_42) rfl (teq (hc42 : ((q &&& (2147483647 : Int32)) % (3 : Int32)) = (1 : Int32))).2 ?_
    show Steps p.tables e below (s₁.setTop (mkF m 45 #[.val (.int pz), .val (.int q), .val (.int ((q &&& (2147483647 : Int32)) % (3 : Int32))), .val (.int ((pz &&& (255 : Int32)).toUInt32.toUInt16.toUInt32.toInt32)), .val (.int ((((pz.toUInt32 >>> ((8 : Int32) &&& 31).toUInt32).toInt32) &&& (255 : Int32)).toUInt32.toUInt16.toUInt32.toInt32)), .unset] [])) _
    refine XS.iloadN X0.here hx rfl (hb hby dx_method_2_code_45) rfl ?_
    show Steps p.tables e below (s₁.setTop (mkF m 46 #[.val (.int pz), .val (.int q), .val (.int ((q &&& (2147483647 : Int32)) % (3 : Int32))), .val (.int ((pz &&& (255 : Int32)).toUInt32.toUInt16.toUInt32.toInt32)), .val (.int ((((pz.toUInt32 >>> ((8 : Int32) &&& 31).toUInt32).toInt32) &&& (255 : Int32)).toUInt32.toUInt16.toUInt32.toInt32)), .unset] [(.int ((pz &&& (255 : Int32)).toUInt32.toUInt16.toUInt32.toInt32))])) _
    refine st57 _ ?_
    show Steps p.tables e below (T57.setTop (mkF m 49 #[.val (.int pz), .val (.int q), .val (.int ((q &&& (2147483647 : Int32)) % (3 : Int32))), .val (.int ((pz &&& (255 : Int32)).toUInt32.toUInt16.toUInt32.toInt32)), .val (.int ((((pz.toUInt32 >>> ((8 : Int32) &&& 31).toUInt32).toInt32) &&& (255 : Int32)).toUInt32.toUInt16.toUInt32.toInt32)), .unset] [(.ref b_57)])) _
    exact retOut X57 hx Bd.returns rfl (Or.inr (Or.inr (Or.inr (Or.inr ⟨rfl, rfl, rfl⟩)))) (hb hby dx_method_2_code_49) hr
  · show Qdraw Z G1 pz q h0 n0 _ T57.heap _
    exact ⟨b_57, rfl, N57, K0_58, l0_b_57, f57_1⟩
  · show CHr Z own_EL s.vm s.heap T57.vm T57.heap
    rw [hh]
    exact hFin
set_option maxRecDepth 65536 in
set_option maxHeartbeats 40000000 in
theorem rmdraw_2 (l : Launch) (Z : State) (a0 : Array Value) (G1 : Int32) (hG : Glob Z a0 G1) (ws : List Jvm.Cond) (pz : Int32) (q : Int32) (h0 : Heap) (n0 : Nat) (Z0 : n0 ≤ h0.size) (X00 : Old Z n0 h0) (hc26 : ¬ (((q &&& (2147483647 : Int32)) % (3 : Int32)) = (0 : Int32))) (hc42 : ¬ (((q &&& (2147483647 : Int32)) % (3 : Int32)) = (1 : Int32))) :
    MetFree l y7 (head1 (Jvm.Cond.code y7 method_2_code 6 (some (.object "java/lang/String")) :: ws) ({ frames := 4, cells := 6, slots := 12, locals := 66 } : Room)) (fun a U => a = #[(.int pz), (.int q)] ∧ Z.Warmed39 U.vm ∧ U.heap = h0 ∧ CHv Z own_EL U.vm h0) (fun _ _ _ _ _ => True) (fun _ U o U' => ∃ v L, o = .returned v ∧ Qdraw Z G1 pz q h0 n0 v U'.heap L ∧ CHr Z own_EL U.vm U.heap U'.vm U'.heap ∧ ReturnedEndW U o U' L ({ frames := 4, cells := 6, slots := 12, locals := 66 } : Room).cells ({ frames := 4, cells := 6, slots := 12, locals := 66 } : Room).slots) := by
  obtain ⟨hw, O_cs, P_cs⟩ := id hG
  have W : ∀ (i : Nat) {d : Jvm.Cond}, tables_1[i]? = some d → d.before a0 Z = true := fun i d h => hw d (List.mem_of_getElem? h)
  refine MetFree.of_bodySF (plainFor_of_name pn_com_example_larkbridge_larkbridge_mcp_McpResourceContentsTextPinLaw) hisR ?_
  intro p e s m args below meth c s₁ Bd hml0 hP hK
  obtain ⟨rfl, hZ, hh, hCH⟩ := hP
  have hx := Bd.exec
  have hby := Bd.bytes
  have hml : c.maxLocals = 6 := hml0
  have hown : s.vm.findClass "com/example/larkbridge/larkbridge/mcp/McpResourceContentsTextPinLaw" = some m.cls := findClass_of_methodNamed Bd.named
  have hnm := (name_of_methodNamed Bd.named Bd.method).1
  have X0 : Stand p l e ({ frames := 4, cells := 6, slots := 12, locals := 66 } : Room) (s.setVm s.vm) m #[(.int pz), (.int q)] below meth c s₁ [] 0 0 := Stand.of_body Bd
  have e0 : s₁.heap = h0 := by rw [← hh, Bd.state]; rfl
  have hS0 : s.Since s.vm h0.size := (State.WarmedH.refl s).since _
  have hk0 : h0.size ≤ h0.size := Nat.le_refl _
  have R0 : CHr Z own_EL s.vm h0 s.vm h0 := CHr.refl hCH
  have hEL := own_ew hw
  have N0 := Fr.nil n0
  have pre0 : ∀ t, Steps p.tables e below (s₁.setTop (mkF m 0 #[.val (.int pz), .val (.int q), .unset, .unset, .unset, .unset] [])) t → Steps p.tables e below (s₁.setTop (entryFrame m #[(.int pz), (.int q)] 6)) t := fun t kk_ => castTop (ef_method_2_code_II m pz q) kk_
  obtain ⟨T59, h59, k59, X59, e59, E59, A59, st59⟩ := newP X0 hx hZ (W 32 rfl) e0 (g := (mkF m 51 #[.val (.int pz), .val (.int q), .val (.int ((q &&& (2147483647 : Int32)) % (3 : Int32))), .val (.int ((pz &&& (255 : Int32)).toUInt32.toUInt16.toUInt32.toInt32)), .val (.int ((((pz.toUInt32 >>> ((8 : Int32) &&& 31).toUInt32).toInt32) &&& (255 : Int32)).toUInt32.toUInt16.toUInt32.toInt32)), .unset] [(.int (2 : Int32))])) rfl (hb hby dx_method_2_code_51) rfl (by decide) (cap := 2) (by decide) (by decide) (by decide) (by decide)
  obtain ⟨b59, g59⟩ : ∃ z, z = h0.size := ⟨_, rfl⟩
  rw [← g59] at A59 st59
  have Z60 : n0 ≤ h59.size := Nat.le_trans Z0 E59.1
  have K0_60 : Keep h0 h59 [] := (Keep.refl h0 []).ext E59
  have O60 : Old Z n0 h59 := X00.ext E59
  have R60 : CHr Z own_EL s.vm h0 s.vm h59 := R0.trans (CHr.ext E59 R0.1)
  have hk60 : h0.size ≤ h59.size := Nat.le_trans hk0 E59.1
  have lo_b59 : h0.size ≤ b59 := Nat.le_of_eq g59.symm
  have g_b59 : n0 ≤ b59 := Nat.le_trans Z0 lo_b59
  have l0_b59 : h0.size ≤ b59 := Nat.le_trans (Keep.refl h0 []).1 lo_b59
  have V_b59 : Arv Z h59 b59 k59 .char (2 : Int32) [(.int (0 : Int32)), (.int (0 : Int32))] (.int (0 : Int32)) := (Arv.new A59 (by decide)).pad (pad_rep [] (.int (0 : Int32)) 2)
  obtain ⟨clq61, Arq61, qaq61, Sq61, Nq61, Hq61, Gq61⟩ := id V_b59
  have hinq61 : ¬ ((0 : Int32) < 0 ∨ clq61.slots.size ≤ ((0 : Int32)).toNatClampNeg) := inb_of Sq61 ⟨by decide, by decide⟩
  obtain ⟨T62, h62, X62, e62, W62, st62⟩ := stC X59 hx hZ e59 Arq61 (j := (0 : Int32)) hinq61 (g := (mkF m 59 #[.val (.int pz), .val (.int q), .val (.int ((q &&& (2147483647 : Int32)) % (3 : Int32))), .val (.int ((pz &&& (255 : Int32)).toUInt32.toUInt16.toUInt32.toInt32)), .val (.int ((((pz.toUInt32 >>> ((8 : Int32) &&& 31).toUInt32).toInt32) &&& (255 : Int32)).toUInt32.toUInt16.toUInt32.toInt32)), .val (.ref b59)] [(.int ((pz &&& (255 : Int32)).toUInt32.toUInt16.toUInt32.toInt32)), (.int (0 : Int32)), (.ref b59)])) rfl rfl (hb hby dx_method_2_code_59)
  have V62 : Arv Z h62 b59 k59 .char (2 : Int32) [(.int (nar .char ((pz &&& (255 : Int32)).toUInt32.toUInt16.toUInt32.toInt32))), (.int (0 : Int32))] (.int (0 : Int32)) := Arv.set Arq61 qaq61 Sq61 Nq61 Hq61 Gq61 (fits_nar_char _) W62 0 rfl (Nat.le_of_ble_eq_true rfl)
  have Z63 : n0 ≤ h62.size := Nat.le_trans Z60 (Keep.of_wr W62).1
  have K0_63 : Keep h0 h62 [] := K0_60.wr W62 (Or.inr l0_b59)
  have O63 : Old Z n0 h62 := O60.wr W62 g_b59
  have R63 : CHr Z own_EL s.vm h0 s.vm h62 := R60.trans (CHr.wr W62 (Safe.arv hZ.alike V_b59 (by decide)) R60.1)
  have hk63 : h0.size ≤ h62.size := Nat.le_trans hk60 (Keep.of_wr W62).1
  have N62 := Fr.snoc X62 N0 g_b59
  obtain ⟨clq64, Arq64, qaq64, Sq64, Nq64, Hq64, Gq64⟩ := id V62
  have hinq64 : ¬ ((1 : Int32) < 0 ∨ clq64.slots.size ≤ ((1 : Int32)).toNatClampNeg) := inb_of Sq64 ⟨by decide, by decide⟩
  obtain ⟨T65, h65, X65, e65, W65, st65⟩ := stC X62 hx hZ e62 Arq64 (j := (1 : Int32)) hinq64 (g := (mkF m 65 #[.val (.int pz), .val (.int q), .val (.int ((q &&& (2147483647 : Int32)) % (3 : Int32))), .val (.int ((pz &&& (255 : Int32)).toUInt32.toUInt16.toUInt32.toInt32)), .val (.int ((((pz.toUInt32 >>> ((8 : Int32) &&& 31).toUInt32).toInt32) &&& (255 : Int32)).toUInt32.toUInt16.toUInt32.toInt32)), .val (.ref b59)] [(.int ((((pz.toUInt32 >>> ((8 : Int32) &&& 31).toUInt32).toInt32) &&& (255 : Int32)).toUInt32.toUInt16.toUInt32.toInt32)), (.int (1 : Int32)), (.ref b59)])) rfl rfl (hb hby dx_method_2_code_65)
  have V65 : Arv Z h65 b59 k59 .char (2 : Int32) [(.int (nar .char ((pz &&& (255 : Int32)).toUInt32.toUInt16.toUInt32.toInt32))), (.int (nar .char ((((pz.toUInt32 >>> ((8 : Int32) &&& 31).toUInt32).toInt32) &&& (255 : Int32)).toUInt32.toUInt16.toUInt32.toInt32)))] (.int (0 : Int32)) := Arv.set Arq64 qaq64 Sq64 Nq64 Hq64 Gq64 (fits_nar_char _) W65 1 rfl (Nat.le_of_ble_eq_true rfl)
  have Z66 : n0 ≤ h65.size := Nat.le_trans Z63 (Keep.of_wr W65).1
  have K0_66 : Keep h0 h65 [] := K0_63.wr W65 (Or.inr l0_b59)
  have O66 : Old Z n0 h65 := O63.wr W65 g_b59
  have R66 : CHr Z own_EL s.vm h0 s.vm h65 := R63.trans (CHr.wr W65 (Safe.arv hZ.alike V62 (by decide)) R63.1)
  have hk66 : h0.size ≤ h65.size := Nat.le_trans hk63 (Keep.of_wr W65).1
  have N65 := Fr.snoc X65 N62 g_b59
  obtain ⟨T67, h67, X67, e67, E67, A67, D67, -, st67⟩ := newO X65 hx hZ hown (W 31 rfl) (W 15 rfl) (W 7 rfl) e65 (g := (mkF m 66 #[.val (.int pz), .val (.int q), .val (.int ((q &&& (2147483647 : Int32)) % (3 : Int32))), .val (.int ((pz &&& (255 : Int32)).toUInt32.toUInt16.toUInt32.toInt32)), .val (.int ((((pz.toUInt32 >>> ((8 : Int32) &&& 31).toUInt32).toInt32) &&& (255 : Int32)).toUInt32.toUInt16.toUInt32.toInt32)), .val (.ref b59)] [])) rfl (hb hby dx_method_2_code_66) (by decide) (by decide)
  obtain ⟨b67, g67⟩ : ∃ z, z = h65.size := ⟨_, rfl⟩
  rw [← g67] at A67 D67 st67
  have Z68 : n0 ≤ h67.size := Nat.le_trans Z66 E67.1
  have K0_68 : Keep h0 h67 [] := K0_66.ext E67
  have O68 : Old Z n0 h67 := O66.ext E67
  have R68 : CHr Z own_EL s.vm h0 s.vm h67 := R66.trans (CHr.ext E67 R66.1)
  have hk68 : h0.size ≤ h67.size := Nat.le_trans hk66 E67.1
  have lo_b67 : h65.size ≤ b67 := Nat.le_of_eq g67.symm
  have g_b67 : n0 ≤ b67 := Nat.le_trans Z66 lo_b67
  have l0_b67 : h0.size ≤ b67 := Nat.le_trans K0_66.1 lo_b67
  have F_value_b67 : Fld Z h67 b67 "java/lang/String" "value" "[B" .null := D67 (Or.inr (W 28 rfl)) (ty := (.array .byte)) (by decide)
  have F_coder_b67 : Fld Z h67 b67 "java/lang/String" "coder" "B" (.int (0 : Int32)) := D67 (Or.inr (W 30 rfl)) (ty := .byte) (by decide)
  have hws69 := own_hws hw
  have hp69 : ∀ c ∈ ([(nar .char ((pz &&& (255 : Int32)).toUInt32.toUInt16.toUInt32.toInt32)), (nar .char ((((pz.toUInt32 >>> ((8 : Int32) &&& 31).toUInt32).toInt32) &&& (255 : Int32)).toUInt32.toUInt16.toUInt32.toInt32))] : List Int32), ¬ c < 0 ∧ ¬ (255 : Int32) < c := by
    intro c hc
    simp only [List.mem_cons, List.not_mem_nil, or_false] at hc
    rcases hc with rfl | rfl <;> exact own_char255 _
  have f70 := (V65.ext E67)
  -- pc 72: java/lang/String.<init>
  obtain ⟨_, _, ⟨T69, L69, k69, n69⟩, -, X69, ⟨Lc69, hQ69, l69, y69, z69⟩, st69⟩ := X67.specialBack hx (y := y5) rfl hown (mvT hZ (W 33 rfl)) (mvT hZ (W 34 rfl)) (mvT hZ (W 35 rfl)) (by decide) (StrChars.Road.backV (W := 1) hZ hws69 (kI := 4) (W 15 rfl) (cs := ([(nar .char ((pz &&& (255 : Int32)).toUInt32.toUInt16.toUInt32.toInt32)), (nar .char ((((pz.toUInt32 >>> ((8 : Int32) &&& 31).toUInt32).toInt32) &&& (255 : Int32)).toUInt32.toUInt16.toUInt32.toInt32))] : List Int32)) (bs := (([(nar .char ((pz &&& (255 : Int32)).toUInt32.toUInt16.toUInt32.toInt32)), (nar .char ((((pz.toUInt32 >>> ((8 : Int32) &&& 31).toUInt32).toInt32) &&& (255 : Int32)).toUInt32.toUInt16.toUInt32.toInt32))] : List Int32)).map (fun c => c.toInt8.toInt32)) (n := 2) g_b67 Z68 A67 F_value_b67 F_coder_b67 f70 (O_cs.ext O68.2) P_cs rfl rfl (by decide) (by decide) hp69 rfl (by decide) (by decide)) (g := (mkF m 72 #[.val (.int pz), .val (.int q), .val (.int ((q &&& (2147483647 : Int32)) % (3 : Int32))), .val (.int ((pz &&& (255 : Int32)).toUInt32.toUInt16.toUInt32.toInt32)), .val (.int ((((pz.toUInt32 >>> ((8 : Int32) &&& 31).toUInt32).toInt32) &&& (255 : Int32)).toUInt32.toUInt16.toUInt32.toInt32)), .val (.ref b59)] [(.ref b59), (.ref b67), (.ref b67)])) rfl (by rw [hml]; rfl) (Steps.refl _) (a := b67) (argsL := [(.ref b59)]) (rest := [(.ref b67)]) (lenOf pd___C_V rfl) rfl (by show 2 * 0 + _ ≤ _; exact Nat.le_of_eq rfl) (hb hby dx_method_2_code_72) (fun _ _ => ⟨rfl, e67, (by decide : 2 + 1 ≤ _), (by decide : 6 + 2 ≤ _)⟩)
  dsimp only [Pt.U, Pt.locs, Pt.cells, Pt.slots] at X69 l69 y69 z69 st69 hQ69
  subst l69 y69 z69
  obtain ⟨rfl, N69q, K69, E69x, C69x, t69, kb69, gt69, lt69, nt69, V69x, B69x⟩ := hQ69
  have N69 := Fr.app N65 N69q
  have Z71 : n0 ≤ T69.heap.size := Nat.le_trans Z68 K69.1
  have K0_71 : Keep h0 T69.heap [] := K0_68.trans K69 (allS (Or.inr l0_b67) all0)
  have O71 : Old Z n0 T69.heap := O68.keep K69 (allS g_b67 all0)
  have R71 : CHr Z own_EL s.vm h0 s.vm T69.heap := R68.trans (CHr.keep K69 (sfS (own_safeS hZ.alike A67 F_value_b67) sf0) R68.1)
  have hk71 : h0.size ≤ T69.heap.size := Nat.le_trans hk68 K69.1
  have lo_t69 : h67.size ≤ t69 := lt69
  have g_t69 : n0 ≤ t69 := Nat.le_trans Z68 lo_t69
  have l0_t69 : h0.size ≤ t69 := Nat.le_trans K0_68.1 lo_t69
  obtain ⟨fs, hr, hrun, hended, hend⟩ := Jvm.Stand.leaveW (v := some (.ref b67)) X69 hS0 hk71 (fun h => by rw [Bd.returns] at h; cases h)
  have hFin := R71.trans (CHv.at X69 hZ hEL R71.1)
  refine ⟨_, _, pre0 _ ?_, hrun, hended, _, _, rfl, ?_, ?_, own_mono hend (Nat.le_of_ble_eq_true rfl) (Nat.le_of_ble_eq_true rfl)⟩
  · show Steps p.tables e below (s₁.setTop (mkF m 0 #[.val (.int pz), .val (.int q), .unset, .unset, .unset, .unset] [])) _
    refine XS.iloadN X0.here hx rfl (hb hby dx_method_2_code_0) rfl ?_
    show Steps p.tables e below (s₁.setTop (mkF m 1 #[.val (.int pz), .val (.int q), .unset, .unset, .unset, .unset] [(.int q)])) _
    refine X0.ldcInt hx hown (mvT hZ (W 4 rfl)) (g := (mkF m 1 #[.val (.int pz), .val (.int q), .unset, .unset, .unset, .unset] [(.int q)])) rfl (hb hby dx_method_2_code_1) _ ?_
    show Steps p.tables e below (s₁.setTop (mkF m 3 #[.val (.int pz), .val (.int q), .unset, .unset, .unset, .unset] [(.int (2147483647 : Int32)), (.int q)])) _
    refine XS.iand X0.here hx rfl (hb hby dx_method_2_code_3) rfl ?_
    show Steps p.tables e below (s₁.setTop (mkF m 4 #[.val (.int pz), .val (.int q), .unset, .unset, .unset, .unset] [(.int (q &&& (2147483647 : Int32)))])) _
    refine XS.iconst X0.here hx rfl (hb hby dx_method_2_code_4) ?_
    show Steps p.tables e below (s₁.setTop (mkF m 5 #[.val (.int pz), .val (.int q), .unset, .unset, .unset, .unset] [(.int (3 : Int32)), (.int (q &&& (2147483647 : Int32)))])) _
    refine iremM (g := (mkF m 5 #[.val (.int pz), .val (.int q), .unset, .unset, .unset, .unset] [(.int (3 : Int32)), (.int (q &&& (2147483647 : Int32)))])) X0 hx rfl (hb hby dx_method_2_code_5) rfl (by decide) ?_
    show Steps p.tables e below (s₁.setTop (mkF m 6 #[.val (.int pz), .val (.int q), .unset, .unset, .unset, .unset] [(.int ((q &&& (2147483647 : Int32)) % (3 : Int32)))])) _
    refine XS.istoreN X0.here hx rfl (hb hby dx_method_2_code_6) rfl (l' := #[.val (.int pz), .val (.int q), .val (.int ((q &&& (2147483647 : Int32)) % (3 : Int32))), .unset, .unset, .unset]) rfl ?_
    show Steps p.tables e below (s₁.setTop (mkF m 7 #[.val (.int pz), .val (.int q), .val (.int ((q &&& (2147483647 : Int32)) % (3 : Int32))), .unset, .unset, .unset] [])) _
    refine XS.iloadN X0.here hx rfl (hb hby dx_method_2_code_7) rfl ?_
    show Steps p.tables e below (s₁.setTop (mkF m 8 #[.val (.int pz), .val (.int q), .val (.int ((q &&& (2147483647 : Int32)) % (3 : Int32))), .unset, .unset, .unset] [(.int pz)])) _
    refine XS.sipush X0.here hx rfl (hb hby dx_method_2_code_8) ?_
    show Steps p.tables e below (s₁.setTop (mkF m 11 #[.val (.int pz), .val (.int q), .val (.int ((q &&& (2147483647 : Int32)) % (3 : Int32))), .unset, .unset, .unset] [(.int (255 : Int32)), (.int pz)])) _
    refine XS.iand X0.here hx rfl (hb hby dx_method_2_code_11) rfl ?_
    show Steps p.tables e below (s₁.setTop (mkF m 12 #[.val (.int pz), .val (.int q), .val (.int ((q &&& (2147483647 : Int32)) % (3 : Int32))), .unset, .unset, .unset] [(.int (pz &&& (255 : Int32)))])) _
    refine XS.i2c X0.here hx rfl (hb hby dx_method_2_code_12) rfl ?_
    show Steps p.tables e below (s₁.setTop (mkF m 13 #[.val (.int pz), .val (.int q), .val (.int ((q &&& (2147483647 : Int32)) % (3 : Int32))), .unset, .unset, .unset] [(.int ((pz &&& (255 : Int32)).toUInt32.toUInt16.toUInt32.toInt32))])) _
    refine XS.istoreN X0.here hx rfl (hb hby dx_method_2_code_13) rfl (l' := #[.val (.int pz), .val (.int q), .val (.int ((q &&& (2147483647 : Int32)) % (3 : Int32))), .val (.int ((pz &&& (255 : Int32)).toUInt32.toUInt16.toUInt32.toInt32)), .unset, .unset]) rfl ?_
    show Steps p.tables e below (s₁.setTop (mkF m 14 #[.val (.int pz), .val (.int q), .val (.int ((q &&& (2147483647 : Int32)) % (3 : Int32))), .val (.int ((pz &&& (255 : Int32)).toUInt32.toUInt16.toUInt32.toInt32)), .unset, .unset] [])) _
    refine XS.iloadN X0.here hx rfl (hb hby dx_method_2_code_14) rfl ?_
    show Steps p.tables e below (s₁.setTop (mkF m 15 #[.val (.int pz), .val (.int q), .val (.int ((q &&& (2147483647 : Int32)) % (3 : Int32))), .val (.int ((pz &&& (255 : Int32)).toUInt32.toUInt16.toUInt32.toInt32)), .unset, .unset] [(.int pz)])) _
    refine XS.bipush X0.here hx rfl (hb hby dx_method_2_code_15) ?_
    show Steps p.tables e below (s₁.setTop (mkF m 17 #[.val (.int pz), .val (.int q), .val (.int ((q &&& (2147483647 : Int32)) % (3 : Int32))), .val (.int ((pz &&& (255 : Int32)).toUInt32.toUInt16.toUInt32.toInt32)), .unset, .unset] [(.int (8 : Int32)), (.int pz)])) _
    refine XS.iushr X0.here hx rfl (hb hby dx_method_2_code_17) rfl ?_
    show Steps p.tables e below (s₁.setTop (mkF m 18 #[.val (.int pz), .val (.int q), .val (.int ((q &&& (2147483647 : Int32)) % (3 : Int32))), .val (.int ((pz &&& (255 : Int32)).toUInt32.toUInt16.toUInt32.toInt32)), .unset, .unset] [(.int ((pz.toUInt32 >>> ((8 : Int32) &&& 31).toUInt32).toInt32))])) _
    refine XS.sipush X0.here hx rfl (hb hby dx_method_2_code_18) ?_
    show Steps p.tables e below (s₁.setTop (mkF m 21 #[.val (.int pz), .val (.int q), .val (.int ((q &&& (2147483647 : Int32)) % (3 : Int32))), .val (.int ((pz &&& (255 : Int32)).toUInt32.toUInt16.toUInt32.toInt32)), .unset, .unset] [(.int (255 : Int32)), (.int ((pz.toUInt32 >>> ((8 : Int32) &&& 31).toUInt32).toInt32))])) _
    refine XS.iand X0.here hx rfl (hb hby dx_method_2_code_21) rfl ?_
    show Steps p.tables e below (s₁.setTop (mkF m 22 #[.val (.int pz), .val (.int q), .val (.int ((q &&& (2147483647 : Int32)) % (3 : Int32))), .val (.int ((pz &&& (255 : Int32)).toUInt32.toUInt16.toUInt32.toInt32)), .unset, .unset] [(.int (((pz.toUInt32 >>> ((8 : Int32) &&& 31).toUInt32).toInt32) &&& (255 : Int32)))])) _
    refine XS.i2c X0.here hx rfl (hb hby dx_method_2_code_22) rfl ?_
    show Steps p.tables e below (s₁.setTop (mkF m 23 #[.val (.int pz), .val (.int q), .val (.int ((q &&& (2147483647 : Int32)) % (3 : Int32))), .val (.int ((pz &&& (255 : Int32)).toUInt32.toUInt16.toUInt32.toInt32)), .unset, .unset] [(.int ((((pz.toUInt32 >>> ((8 : Int32) &&& 31).toUInt32).toInt32) &&& (255 : Int32)).toUInt32.toUInt16.toUInt32.toInt32))])) _
    refine XS.istore X0.here hx rfl (hb hby dx_method_2_code_23) rfl (l' := #[.val (.int pz), .val (.int q), .val (.int ((q &&& (2147483647 : Int32)) % (3 : Int32))), .val (.int ((pz &&& (255 : Int32)).toUInt32.toUInt16.toUInt32.toInt32)), .val (.int ((((pz.toUInt32 >>> ((8 : Int32) &&& 31).toUInt32).toInt32) &&& (255 : Int32)).toUInt32.toUInt16.toUInt32.toInt32)), .unset]) rfl ?_
    show Steps p.tables e below (s₁.setTop (mkF m 25 #[.val (.int pz), .val (.int q), .val (.int ((q &&& (2147483647 : Int32)) % (3 : Int32))), .val (.int ((pz &&& (255 : Int32)).toUInt32.toUInt16.toUInt32.toInt32)), .val (.int ((((pz.toUInt32 >>> ((8 : Int32) &&& 31).toUInt32).toInt32) &&& (255 : Int32)).toUInt32.toUInt16.toUInt32.toInt32)), .unset] [])) _
    refine XS.iloadN X0.here hx rfl (hb hby dx_method_2_code_25) rfl ?_
    show Steps p.tables e below (s₁.setTop (mkF m 26 #[.val (.int pz), .val (.int q), .val (.int ((q &&& (2147483647 : Int32)) % (3 : Int32))), .val (.int ((pz &&& (255 : Int32)).toUInt32.toUInt16.toUInt32.toInt32)), .val (.int ((((pz.toUInt32 >>> ((8 : Int32) &&& 31).toUInt32).toInt32) &&& (255 : Int32)).toUInt32.toUInt16.toUInt32.toInt32)), .unset] [(.int ((q &&& (2147483647 : Int32)) % (3 : Int32)))])) _
    refine XS.ifYes X0.here hx rfl (pc0 := 26) (pc' := 40) rfl (hb hby dx_method_2_code_26) rfl ((if0 _ _).trans (feq (hc26 : ¬ (((q &&& (2147483647 : Int32)) % (3 : Int32)) = (0 : Int32)))).2) (by decide) (by decide) ?_
    show Steps p.tables e below (s₁.setTop (mkF m 40 #[.val (.int pz), .val (.int q), .val (.int ((q &&& (2147483647 : Int32)) % (3 : Int32))), .val (.int ((pz &&& (255 : Int32)).toUInt32.toUInt16.toUInt32.toInt32)), .val (.int ((((pz.toUInt32 >>> ((8 : Int32) &&& 31).toUInt32).toInt32) &&& (255 : Int32)).toUInt32.toUInt16.toUInt32.toInt32)), .unset] [])) _
    refine XS.iloadN X0.here hx rfl (hb hby dx_method_2_code_40) rfl ?_
    show Steps p.tables e below (s₁.setTop (mkF m 41 #[.val (.int pz), .val (.int q), .val (.int ((q &&& (2147483647 : Int32)) % (3 : Int32))), .val (.int ((pz &&& (255 : Int32)).toUInt32.toUInt16.toUInt32.toInt32)), .val (.int ((((pz.toUInt32 >>> ((8 : Int32) &&& 31).toUInt32).toInt32) &&& (255 : Int32)).toUInt32.toUInt16.toUInt32.toInt32)), .unset] [(.int ((q &&& (2147483647 : Int32)) % (3 : Int32)))])) _
    refine XS.iconst X0.here hx rfl (hb hby dx_method_2_code_41) ?_
    show Steps p.tables e below (s₁.setTop (mkF m 42 #[.val (.int pz), .val (.int q), .val (.int ((q &&& (2147483647 : Int32)) % (3 : Int32))), .val (.int ((pz &&& (255 : Int32)).toUInt32.toUInt16.toUInt32.toInt32)), .val (.int ((((pz.toUInt32 >>> ((8 : Int32) &&& 31).toUInt32).toInt32) &&& (255 : Int32)).toUInt32.toUInt16.toUInt32.toInt32)), .unset] [(.int (1 : Int32)), (.int ((q &&& (2147483647 : Int32)) % (3 : Int32)))])) _
    refine XS.icmpYes X0.here hx rfl (pc0 := 42) (pc' := 50) rfl (hb hby dx_method_2_code_42) rfl (feq (hc42 : ¬ (((q &&& (2147483647 : Int32)) % (3 : Int32)) = (1 : Int32)))).2 (by decide) (by decide) ?_
    show Steps p.tables e below (s₁.setTop (mkF m 50 #[.val (.int pz), .val (.int q), .val (.int ((q &&& (2147483647 : Int32)) % (3 : Int32))), .val (.int ((pz &&& (255 : Int32)).toUInt32.toUInt16.toUInt32.toInt32)), .val (.int ((((pz.toUInt32 >>> ((8 : Int32) &&& 31).toUInt32).toInt32) &&& (255 : Int32)).toUInt32.toUInt16.toUInt32.toInt32)), .unset] [])) _
    refine XS.iconst X0.here hx rfl (hb hby dx_method_2_code_50) ?_
    show Steps p.tables e below (s₁.setTop (mkF m 51 #[.val (.int pz), .val (.int q), .val (.int ((q &&& (2147483647 : Int32)) % (3 : Int32))), .val (.int ((pz &&& (255 : Int32)).toUInt32.toUInt16.toUInt32.toInt32)), .val (.int ((((pz.toUInt32 >>> ((8 : Int32) &&& 31).toUInt32).toInt32) &&& (255 : Int32)).toUInt32.toUInt16.toUInt32.toInt32)), .unset] [(.int (2 : Int32))])) _
    refine st59 _ ?_
    show Steps p.tables e below (T59.setTop (mkF m 53 #[.val (.int pz), .val (.int q), .val (.int ((q &&& (2147483647 : Int32)) % (3 : Int32))), .val (.int ((pz &&& (255 : Int32)).toUInt32.toUInt16.toUInt32.toInt32)), .val (.int ((((pz.toUInt32 >>> ((8 : Int32) &&& 31).toUInt32).toInt32) &&& (255 : Int32)).toUInt32.toUInt16.toUInt32.toInt32)), .unset] [(.ref b59)])) _
    refine XS.astore X59.here hx rfl (hb hby dx_method_2_code_53) rfl rfl (l' := #[.val (.int pz), .val (.int q), .val (.int ((q &&& (2147483647 : Int32)) % (3 : Int32))), .val (.int ((pz &&& (255 : Int32)).toUInt32.toUInt16.toUInt32.toInt32)), .val (.int ((((pz.toUInt32 >>> ((8 : Int32) &&& 31).toUInt32).toInt32) &&& (255 : Int32)).toUInt32.toUInt16.toUInt32.toInt32)), .val (.ref b59)]) rfl ?_
    show Steps p.tables e below (T59.setTop (mkF m 55 #[.val (.int pz), .val (.int q), .val (.int ((q &&& (2147483647 : Int32)) % (3 : Int32))), .val (.int ((pz &&& (255 : Int32)).toUInt32.toUInt16.toUInt32.toInt32)), .val (.int ((((pz.toUInt32 >>> ((8 : Int32) &&& 31).toUInt32).toInt32) &&& (255 : Int32)).toUInt32.toUInt16.toUInt32.toInt32)), .val (.ref b59)] [])) _
    refine XS.aload X59.here hx rfl (hb hby dx_method_2_code_55) rfl rfl ?_
    show Steps p.tables e below (T59.setTop (mkF m 57 #[.val (.int pz), .val (.int q), .val (.int ((q &&& (2147483647 : Int32)) % (3 : Int32))), .val (.int ((pz &&& (255 : Int32)).toUInt32.toUInt16.toUInt32.toInt32)), .val (.int ((((pz.toUInt32 >>> ((8 : Int32) &&& 31).toUInt32).toInt32) &&& (255 : Int32)).toUInt32.toUInt16.toUInt32.toInt32)), .val (.ref b59)] [(.ref b59)])) _
    refine XS.iconst X59.here hx rfl (hb hby dx_method_2_code_57) ?_
    show Steps p.tables e below (T59.setTop (mkF m 58 #[.val (.int pz), .val (.int q), .val (.int ((q &&& (2147483647 : Int32)) % (3 : Int32))), .val (.int ((pz &&& (255 : Int32)).toUInt32.toUInt16.toUInt32.toInt32)), .val (.int ((((pz.toUInt32 >>> ((8 : Int32) &&& 31).toUInt32).toInt32) &&& (255 : Int32)).toUInt32.toUInt16.toUInt32.toInt32)), .val (.ref b59)] [(.int (0 : Int32)), (.ref b59)])) _
    refine XS.iloadN X59.here hx rfl (hb hby dx_method_2_code_58) rfl ?_
    show Steps p.tables e below (T59.setTop (mkF m 59 #[.val (.int pz), .val (.int q), .val (.int ((q &&& (2147483647 : Int32)) % (3 : Int32))), .val (.int ((pz &&& (255 : Int32)).toUInt32.toUInt16.toUInt32.toInt32)), .val (.int ((((pz.toUInt32 >>> ((8 : Int32) &&& 31).toUInt32).toInt32) &&& (255 : Int32)).toUInt32.toUInt16.toUInt32.toInt32)), .val (.ref b59)] [(.int ((pz &&& (255 : Int32)).toUInt32.toUInt16.toUInt32.toInt32)), (.int (0 : Int32)), (.ref b59)])) _
    refine st62 _ ?_
    show Steps p.tables e below (T62.setTop (mkF m 60 #[.val (.int pz), .val (.int q), .val (.int ((q &&& (2147483647 : Int32)) % (3 : Int32))), .val (.int ((pz &&& (255 : Int32)).toUInt32.toUInt16.toUInt32.toInt32)), .val (.int ((((pz.toUInt32 >>> ((8 : Int32) &&& 31).toUInt32).toInt32) &&& (255 : Int32)).toUInt32.toUInt16.toUInt32.toInt32)), .val (.ref b59)] [])) _
    refine XS.aload X62.here hx rfl (hb hby dx_method_2_code_60) rfl rfl ?_
    show Steps p.tables e below (T62.setTop (mkF m 62 #[.val (.int pz), .val (.int q), .val (.int ((q &&& (2147483647 : Int32)) % (3 : Int32))), .val (.int ((pz &&& (255 : Int32)).toUInt32.toUInt16.toUInt32.toInt32)), .val (.int ((((pz.toUInt32 >>> ((8 : Int32) &&& 31).toUInt32).toInt32) &&& (255 : Int32)).toUInt32.toUInt16.toUInt32.toInt32)), .val (.ref b59)] [(.ref b59)])) _
    refine XS.iconst X62.here hx rfl (hb hby dx_method_2_code_62) ?_
    show Steps p.tables e below (T62.setTop (mkF m 63 #[.val (.int pz), .val (.int q), .val (.int ((q &&& (2147483647 : Int32)) % (3 : Int32))), .val (.int ((pz &&& (255 : Int32)).toUInt32.toUInt16.toUInt32.toInt32)), .val (.int ((((pz.toUInt32 >>> ((8 : Int32) &&& 31).toUInt32).toInt32) &&& (255 : Int32)).toUInt32.toUInt16.toUInt32.toInt32)), .val (.ref b59)] [(.int (1 : Int32)), (.ref b59)])) _
    refine XS.iload X62.here hx rfl (hb hby dx_method_2_code_63) rfl ?_
    show Steps p.tables e below (T62.setTop (mkF m 65 #[.val (.int pz), .val (.int q), .val (.int ((q &&& (2147483647 : Int32)) % (3 : Int32))), .val (.int ((pz &&& (255 : Int32)).toUInt32.toUInt16.toUInt32.toInt32)), .val (.int ((((pz.toUInt32 >>> ((8 : Int32) &&& 31).toUInt32).toInt32) &&& (255 : Int32)).toUInt32.toUInt16.toUInt32.toInt32)), .val (.ref b59)] [(.int ((((pz.toUInt32 >>> ((8 : Int32) &&& 31).toUInt32).toInt32) &&& (255 : Int32)).toUInt32.toUInt16.toUInt32.toInt32)), (.int (1 : Int32)), (.ref b59)])) _
    refine st65 _ ?_
    show Steps p.tables e below (T65.setTop (mkF m 66 #[.val (.int pz), .val (.int q), .val (.int ((q &&& (2147483647 : Int32)) % (3 : Int32))), .val (.int ((pz &&& (255 : Int32)).toUInt32.toUInt16.toUInt32.toInt32)), .val (.int ((((pz.toUInt32 >>> ((8 : Int32) &&& 31).toUInt32).toInt32) &&& (255 : Int32)).toUInt32.toUInt16.toUInt32.toInt32)), .val (.ref b59)] [])) _
    refine st67 _ ?_
    show Steps p.tables e below (T67.setTop (mkF m 69 #[.val (.int pz), .val (.int q), .val (.int ((q &&& (2147483647 : Int32)) % (3 : Int32))), .val (.int ((pz &&& (255 : Int32)).toUInt32.toUInt16.toUInt32.toInt32)), .val (.int ((((pz.toUInt32 >>> ((8 : Int32) &&& 31).toUInt32).toInt32) &&& (255 : Int32)).toUInt32.toUInt16.toUInt32.toInt32)), .val (.ref b59)] [(.ref b67)])) _
    refine XS.dup X67.here hx rfl (hb hby dx_method_2_code_69) rfl rfl ?_
    show Steps p.tables e below (T67.setTop (mkF m 70 #[.val (.int pz), .val (.int q), .val (.int ((q &&& (2147483647 : Int32)) % (3 : Int32))), .val (.int ((pz &&& (255 : Int32)).toUInt32.toUInt16.toUInt32.toInt32)), .val (.int ((((pz.toUInt32 >>> ((8 : Int32) &&& 31).toUInt32).toInt32) &&& (255 : Int32)).toUInt32.toUInt16.toUInt32.toInt32)), .val (.ref b59)] [(.ref b67), (.ref b67)])) _
    refine XS.aload X67.here hx rfl (hb hby dx_method_2_code_70) rfl rfl ?_
    show Steps p.tables e below (T67.setTop (mkF m 72 #[.val (.int pz), .val (.int q), .val (.int ((q &&& (2147483647 : Int32)) % (3 : Int32))), .val (.int ((pz &&& (255 : Int32)).toUInt32.toUInt16.toUInt32.toInt32)), .val (.int ((((pz.toUInt32 >>> ((8 : Int32) &&& 31).toUInt32).toInt32) &&& (255 : Int32)).toUInt32.toUInt16.toUInt32.toInt32)), .val (.ref b59)] [(.ref b59), (.ref b67), (.ref b67)])) _
    refine st69.trans ?_
    show Steps p.tables e below (T69.setTop (mkF m 75 #[.val (.int pz), .val (.int q), .val (.int ((q &&& (2147483647 : Int32)) % (3 : Int32))), .val (.int ((pz &&& (255 : Int32)).toUInt32.toUInt16.toUInt32.toInt32)), .val (.int ((((pz.toUInt32 >>> ((8 : Int32) &&& 31).toUInt32).toInt32) &&& (255 : Int32)).toUInt32.toUInt16.toUInt32.toInt32)), .val (.ref b59)] [(.ref b67)])) _
    exact retOut X69 hx Bd.returns rfl (Or.inr (Or.inr (Or.inr (Or.inr ⟨rfl, rfl, rfl⟩)))) (hb hby dx_method_2_code_75) hr
  · show Qdraw Z G1 pz q h0 n0 _ T69.heap _
    exact ⟨b67, rfl, N69, K0_71, l0_b67, E69x⟩
  · show CHr Z own_EL s.vm s.heap T69.vm T69.heap
    rw [hh]
    exact hFin
set_option maxRecDepth 65536 in
theorem rmdraw (l : Launch) (Z : State) (a0 : Array Value) (G1 : Int32) (hG : Glob Z a0 G1) (ws : List Jvm.Cond) (pz : Int32) (q : Int32) (h0 : Heap) (n0 : Nat) (Z0 : n0 ≤ h0.size) (X00 : Old Z n0 h0) :
    MetFree l y7 (head1 (Jvm.Cond.code y7 method_2_code 6 (some (.object "java/lang/String")) :: ws) ({ frames := 4, cells := 6, slots := 12, locals := 66 } : Room)) (fun a U => a = #[(.int pz), (.int q)] ∧ Z.Warmed39 U.vm ∧ U.heap = h0 ∧ CHv Z own_EL U.vm h0) (fun _ _ _ _ _ => True) (fun _ U o U' => ∃ v L, o = .returned v ∧ Qdraw Z G1 pz q h0 n0 v U'.heap L ∧ CHr Z own_EL U.vm U.heap U'.vm U'.heap ∧ ReturnedEndW U o U' L ({ frames := 4, cells := 6, slots := 12, locals := 66 } : Room).cells ({ frames := 4, cells := 6, slots := 12, locals := 66 } : Room).slots) := by
  by_cases hq0 : ((q &&& (2147483647 : Int32)) % (3 : Int32)) = (0 : Int32)
  · exact rmdraw_0 l Z a0 G1 hG ws pz q h0 n0 Z0 X00 hq0
  by_cases hq1 : ((q &&& (2147483647 : Int32)) % (3 : Int32)) = (1 : Int32)
  · exact rmdraw_1 l Z a0 G1 hG ws pz q h0 n0 Z0 X00 hq0 hq1
  exact rmdraw_2 l Z a0 G1 hG ws pz q h0 n0 Z0 X00 hq0 hq1
theorem dx_prog_44_method_1_code_0 : decode prog_44_method_1_code 0 = .ok (.aload_n 0, 1) := by decide +kernel
theorem dx_prog_44_method_1_code_1 : decode prog_44_method_1_code 1 = .ok (.invokespecial 1, 3) := by decide +kernel
theorem dx_prog_44_method_1_code_4 : decode prog_44_method_1_code 4 = .ok (.aload_n 0, 1) := by decide +kernel
theorem dx_prog_44_method_1_code_5 : decode prog_44_method_1_code 5 = .ok (.aload_n 1, 1) := by decide +kernel
theorem dx_prog_44_method_1_code_6 : decode prog_44_method_1_code 6 = .ok (.ldc 7, 2) := by decide +kernel
theorem dx_prog_44_method_1_code_8 : decode prog_44_method_1_code 8 = .ok (.invokestatic 9, 3) := by decide +kernel
theorem pd__Ljava_lang_Object_Ljava_lang_String__Ljava_lang_Object_ : parseMethodDescriptor "(Ljava/lang/Object;Ljava/lang/String;)Ljava/lang/Object;" = some ⟨[(.object "java/lang/Object"), (.object "java/lang/String")], some (.object "java/lang/Object")⟩ := by decide +kernel
theorem dx_prog_44_method_1_code_11 : decode prog_44_method_1_code 11 = .ok (.checkcast 15, 3) := by decide +kernel
theorem dx_prog_44_method_1_code_14 : decode prog_44_method_1_code 14 = .ok (.putfield 17, 3) := by decide +kernel
theorem dx_prog_44_method_1_code_17 : decode prog_44_method_1_code 17 = .ok (.aload_n 0, 1) := by decide +kernel
theorem dx_prog_44_method_1_code_18 : decode prog_44_method_1_code 18 = .ok (.aload_n 2, 1) := by decide +kernel
theorem dx_prog_44_method_1_code_19 : decode prog_44_method_1_code 19 = .ok (.putfield 22, 3) := by decide +kernel
theorem dx_prog_44_method_1_code_22 : decode prog_44_method_1_code 22 = .ok (.aload_n 0, 1) := by decide +kernel
theorem dx_prog_44_method_1_code_23 : decode prog_44_method_1_code 23 = .ok (.aload_n 3, 1) := by decide +kernel
theorem dx_prog_44_method_1_code_24 : decode prog_44_method_1_code 24 = .ok (.putfield 25, 3) := by decide +kernel
theorem dx_prog_44_method_1_code_27 : decode prog_44_method_1_code 27 = .ok (.aload_n 0, 1) := by decide +kernel
theorem dx_prog_44_method_1_code_28 : decode prog_44_method_1_code 28 = .ok (.aload 4, 2) := by decide +kernel
theorem dx_prog_44_method_1_code_30 : decode prog_44_method_1_code 30 = .ok (.putfield 28, 3) := by decide +kernel
theorem dx_prog_44_method_1_code_33 : decode prog_44_method_1_code 33 = .ok (.return_, 1) := by decide +kernel
def Qmci (Z : State) (G1 : Int32) (a1 : Addr) (a2 : Addr) (u : Value) (a3 : Addr) (h0 : Heap) (n0 : Nat) (v : Option Value) (h : Heap) (L : List Loc) : Prop := v = none ∧ Fr n0 L ∧ Keep h0 h [a1] ∧ Exa Z h a1 "com/example/larkbridge/larkbridge/mcp/McpResourceContents" ∧ Fld Z h a1 "com/example/larkbridge/larkbridge/mcp/McpResourceContents" "uri" "Ljava/lang/String;" (.ref a2) ∧ Fld Z h a1 "com/example/larkbridge/larkbridge/mcp/McpResourceContents" "mimeType" "Ljava/lang/String;" u ∧ Fld Z h a1 "com/example/larkbridge/larkbridge/mcp/McpResourceContents" "text" "Ljava/lang/String;" (.ref a3) ∧ Fld Z h a1 "com/example/larkbridge/larkbridge/mcp/McpResourceContents" "bytes" "[B" .null
theorem ef_prog_44_method_1_code_RRVRN (m : MethodId) (x0 : Addr) (x1 : Addr) (x2 : Value) (x3 : Addr) (r2 : x2.isRef = true) : entryFrame m #[(.ref x0), (.ref x1), x2, (.ref x3), .null] 5 = mkF m 0 #[.val (.ref x0), .val (.ref x1), .val x2, .val (.ref x3), .val .null] [] := by
  rcases ref_cases r2 with rfl | ⟨_, rfl⟩ <;>
  (first | rfl | (simp [entryFrame, mkF, argsToLocals, Value.category]; done))
abbrev y8 : MethodName := ⟨"com/example/larkbridge/larkbridge/mcp/McpResourceContents", "<init>", "(Ljava/lang/String;Ljava/lang/String;Ljava/lang/String;[B)V"⟩
theorem pn_com_example_larkbridge_larkbridge_mcp_McpResourceContents : plainName "com/example/larkbridge/larkbridge/mcp/McpResourceContents" = true := by first | (simp [plainName, overriddenIn]; done) | decide +kernel
set_option maxRecDepth 65536 in
set_option maxHeartbeats 40000000 in
theorem rmmci (l : Launch) (Z : State) (a0 : Array Value) (G1 : Int32) (hG : Glob Z a0 G1) (ws : List Jvm.Cond) (a1 : Addr) (a2 : Addr) (u : Value) (a3 : Addr) (h0 : Heap) (n0 : Nat) (Z0 : n0 ≤ h0.size) (X00 : Old Z n0 h0) (E_a1 : Exa Z h0 a1 "com/example/larkbridge/larkbridge/mcp/McpResourceContents") (g_a1 : n0 ≤ a1) (E_a2 : Exa Z h0 a2 "java/lang/String") (F_uri_a1 : Fld Z h0 a1 "com/example/larkbridge/larkbridge/mcp/McpResourceContents" "uri" "Ljava/lang/String;" .null) (F_mimeType_a1 : Fld Z h0 a1 "com/example/larkbridge/larkbridge/mcp/McpResourceContents" "mimeType" "Ljava/lang/String;" .null) (F_text_a1 : Fld Z h0 a1 "com/example/larkbridge/larkbridge/mcp/McpResourceContents" "text" "Ljava/lang/String;" .null) (F_bytes_a1 : Fld Z h0 a1 "com/example/larkbridge/larkbridge/mcp/McpResourceContents" "bytes" "[B" .null) (ru : u.isRef = true) :
    MetFree l y8 (head1 (Jvm.Cond.code y8 prog_44_method_1_code 5 none :: ws) ({ frames := 1, cells := 2, slots := 16, locals := 14 } : Room)) (fun a U => a = #[(.ref a1), (.ref a2), u, (.ref a3), .null] ∧ Z.Warmed39 U.vm ∧ U.heap = h0 ∧ CHv Z own_EL U.vm h0) (fun _ _ _ _ _ => True) (fun _ U o U' => ∃ v L, o = .returned v ∧ Qmci Z G1 a1 a2 u a3 h0 n0 v U'.heap L ∧ CHr Z own_EL U.vm U.heap U'.vm U'.heap ∧ ReturnedEndW U o U' L ({ frames := 1, cells := 2, slots := 16, locals := 14 } : Room).cells ({ frames := 1, cells := 2, slots := 16, locals := 14 } : Room).slots) := by
  obtain ⟨hw, O_cs, P_cs⟩ := id hG
  have W : ∀ (i : Nat) {d : Jvm.Cond}, tables_1[i]? = some d → d.before a0 Z = true := fun i d h => hw d (List.mem_of_getElem? h)
  refine MetFree.of_bodySF (plainFor_of_name pn_com_example_larkbridge_larkbridge_mcp_McpResourceContents) hisR ?_
  intro p e s m args below meth c s₁ Bd hml0 hP hK
  obtain ⟨rfl, hZ, hh, hCH⟩ := hP
  have hx := Bd.exec
  have hby := Bd.bytes
  have hml : c.maxLocals = 5 := hml0
  have hown : s.vm.findClass "com/example/larkbridge/larkbridge/mcp/McpResourceContents" = some m.cls := findClass_of_methodNamed Bd.named
  have hnm := (name_of_methodNamed Bd.named Bd.method).1
  have X0 : Stand p l e ({ frames := 1, cells := 2, slots := 16, locals := 14 } : Room) (s.setVm s.vm) m #[(.ref a1), (.ref a2), u, (.ref a3), .null] below meth c s₁ [] 0 0 := Stand.of_body Bd
  have e0 : s₁.heap = h0 := by rw [← hh, Bd.state]; rfl
  have hS0 : s.Since s.vm h0.size := (State.WarmedH.refl s).since _
  have hk0 : h0.size ≤ h0.size := Nat.le_refl _
  have R0 : CHr Z own_EL s.vm h0 s.vm h0 := CHr.refl hCH
  have hEL := own_ew hw
  have N0 := Fr.nil n0
  have pre0 : ∀ t, Steps p.tables e below (s₁.setTop (mkF m 0 #[.val (.ref a1), .val (.ref a2), .val u, .val (.ref a3), .val .null] [])) t → Steps p.tables e below (s₁.setTop (entryFrame m #[(.ref a1), (.ref a2), u, (.ref a3), .null] 5)) t := fun t kk_ => castTop (ef_prog_44_method_1_code_RRVRN m a1 a2 u a3 ru) kk_
  obtain ⟨T72, X72, e72, st72⟩ := initO X0 hx hZ hown (W 57 rfl) (W 25 rfl) (W 26 rfl) e0 (g := (mkF m 1 #[.val (.ref a1), .val (.ref a2), .val u, .val (.ref a3), .val .null] [(.ref a1)])) rfl (by rw [hml]; rfl) rfl (hb hby dx_prog_44_method_1_code_1) (by decide) (W := 0) (by show 2 * 0 + _ ≤ _; exact Nat.le_of_eq rfl) (by decide)
  obtain ⟨a73, T73, h73, k73, X73, e73, E73, hS73, hk73, hZ73, hw73, hC73, -, st73⟩ := ldcOH X72 hx hZ hown (W 58 rfl) (own_sa hw) e72 hS0 hk0 hEL R0.1 (g := (mkF m 6 #[.val (.ref a1), .val (.ref a2), .val u, .val (.ref a3), .val .null] [(.ref a2), (.ref a1)])) rfl (hb hby dx_prog_44_method_1_code_6) (n := 12) (by decide) (by decide) (by decide) (by decide)
  have Z74 : n0 ≤ h73.size := Nat.le_trans Z0 E73.1
  have K0_74 : Keep h0 h73 [a1] := (Keep.refl h0 [a1]).ext E73
  have O74 : Old Z n0 h73 := X00.ext E73
  have Rb73 : CHr Z own_EL s.vm h0 T73.vm h73 := R0.trans hC73
  -- pc 8: java/util/Objects.requireNonNull
  obtain ⟨_, _, ⟨T75, L75, k75, n75⟩, -, X75, ⟨Lc75, hQ75, l75, y75, z75⟩, st75⟩ := Jvm.LawKit.callS X73 hx (y := y6) hw73 (mvT hZ73 (W 49 rfl)) (mvT hZ73 (W 50 rfl)) (mvT hZ73 (W 51 rfl)) (mvT hZ73 (W 52 rfl)) (by decide) (backOf (W := 1) (rmrnn l Z a0 G1 hG [] a2 a73 h73 n0 Z74 O74) hZ73 (W 52 rfl) (W 51 rfl) (by decide) (by decide)) (g := (mkF m 8 #[.val (.ref a1), .val (.ref a2), .val u, .val (.ref a3), .val .null] [(.ref a73), (.ref a2), (.ref a1)])) rfl (by rw [hml]; rfl) (argsL := [(.ref a2), (.ref a73)]) (rest := [(.ref a1)]) (lenOf pd__Ljava_lang_Object_Ljava_lang_String__Ljava_lang_Object_ rfl) rfl (by show 2 * 0 + _ ≤ _; exact Nat.le_of_eq rfl) (hb hby dx_prog_44_method_1_code_8) (fun _ _ => ⟨rfl, e73, (by decide : 2 + 0 ≤ _), (by decide : 16 + 0 ≤ _)⟩)
  dsimp only [Pt.U, Pt.locs, Pt.cells, Pt.slots] at X75 l75 y75 z75 st75 hQ75
  subst l75 y75 z75
  obtain ⟨rfl, N75q, eq75⟩ := hQ75
  have N75 := Fr.app N0 N75q
  have f76 := (E_a2.ext E73)
  obtain ⟨T77, X77, e77, st77⟩ := castY X75 hx hZ73 hw73 (W 53 rfl) eq75 (Ins.self f76) (g := (mkF m 11 #[.val (.ref a1), .val (.ref a2), .val u, .val (.ref a3), .val .null] [(.ref a2), (.ref a1)])) rfl rfl (hb hby dx_prog_44_method_1_code_11)
  have f78 := (E_a1.ext E73)
  have f79 := (F_uri_a1.ext E73)
  obtain ⟨T80, h80, X80, e80, W80, st80⟩ := putF X77 hx hZ73 hw73 (host := "") (Or.inl (W 59 rfl)) Via.refl e77 f79 f78 (Or.inr ⟨(W 60 rfl), rfl, hnm⟩) (W 47 rfl) (ty := (.object "java/lang/String")) (by decide) rfl rfl (g := (mkF m 14 #[.val (.ref a1), .val (.ref a2), .val u, .val (.ref a3), .val .null] [(.ref a2), (.ref a1)])) rfl rfl (hb hby dx_prog_44_method_1_code_14)
  have Fw80 := f79.same W80
  have Z81 : n0 ≤ h80.size := Nat.le_trans Z74 (Keep.of_wr W80).1
  have K0_81 : Keep h0 h80 [a1] := K0_74.wr W80 (Or.inl (List.mem_of_getElem? (i := 0) rfl))
  have O81 : Old Z n0 h80 := O74.wr W80 g_a1
  have R81 : CHr Z own_EL s.vm h0 T73.vm h80 := Rb73.trans (CHr.wr W80 (Safe.exa hZ73.alike f78 (by decide) (by decide)) Rb73.1)
  have hk81 : k73 ≤ h80.size := Nat.le_trans hk73 (Keep.of_wr W80).1
  have N80 := Fr.snoc X80 N75 g_a1
  have f82 := (f78.wr W80)
  have f83 := ((F_mimeType_a1.ext E73).other W80 (Or.inr (slot_ne (Or.inr (W 62 rfl)) (Or.inr (W 60 rfl)) (by decide) (t := (.object "java/lang/String")) (t' := (.object "java/lang/String")) (by decide) (by decide))))
  obtain ⟨T84, h84, X84, e84, W84, st84⟩ := putF X80 hx hZ73 hw73 (host := "") (Or.inl (W 61 rfl)) Via.refl e80 f83 f82 (Or.inr ⟨(W 62 rfl), rfl, hnm⟩) (W 47 rfl) (ty := (.object "java/lang/String")) (by decide) (own_nar rfl ru) (own_fits rfl ru) (g := (mkF m 19 #[.val (.ref a1), .val (.ref a2), .val u, .val (.ref a3), .val .null] [u, (.ref a1)])) rfl rfl (hb hby dx_prog_44_method_1_code_19)
  have Fw84 := f83.same W84
  have Z85 : n0 ≤ h84.size := Nat.le_trans Z81 (Keep.of_wr W84).1
  have K0_85 : Keep h0 h84 [a1] := K0_81.wr W84 (Or.inl (List.mem_of_getElem? (i := 0) rfl))
  have O85 : Old Z n0 h84 := O81.wr W84 g_a1
  have R85 : CHr Z own_EL s.vm h0 T73.vm h84 := R81.trans (CHr.wr W84 (Safe.exa hZ73.alike f82 (by decide) (by decide)) R81.1)
  have hk85 : k73 ≤ h84.size := Nat.le_trans hk81 (Keep.of_wr W84).1
  have N84 := Fr.snoc X84 N80 g_a1
  have f86 := (f82.wr W84)
  have f87 := (((F_text_a1.ext E73).other W80 (Or.inr (slot_ne (Or.inr (W 64 rfl)) (Or.inr (W 60 rfl)) (by decide) (t := (.object "java/lang/String")) (t' := (.object "java/lang/String")) (by decide) (by decide)))).other W84 (Or.inr (slot_ne (Or.inr (W 64 rfl)) (Or.inr (W 62 rfl)) (by decide) (t := (.object "java/lang/String")) (t' := (.object "java/lang/String")) (by decide) (by decide))))
  obtain ⟨T88, h88, X88, e88, W88, st88⟩ := putF X84 hx hZ73 hw73 (host := "") (Or.inl (W 63 rfl)) Via.refl e84 f87 f86 (Or.inr ⟨(W 64 rfl), rfl, hnm⟩) (W 47 rfl) (ty := (.object "java/lang/String")) (by decide) rfl rfl (g := (mkF m 24 #[.val (.ref a1), .val (.ref a2), .val u, .val (.ref a3), .val .null] [(.ref a3), (.ref a1)])) rfl rfl (hb hby dx_prog_44_method_1_code_24)
  have Fw88 := f87.same W88
  have Z89 : n0 ≤ h88.size := Nat.le_trans Z85 (Keep.of_wr W88).1
  have K0_89 : Keep h0 h88 [a1] := K0_85.wr W88 (Or.inl (List.mem_of_getElem? (i := 0) rfl))
  have O89 : Old Z n0 h88 := O85.wr W88 g_a1
  have R89 : CHr Z own_EL s.vm h0 T73.vm h88 := R85.trans (CHr.wr W88 (Safe.exa hZ73.alike f86 (by decide) (by decide)) R85.1)
  have hk89 : k73 ≤ h88.size := Nat.le_trans hk85 (Keep.of_wr W88).1
  have N88 := Fr.snoc X88 N84 g_a1
  have f90 := (f86.wr W88)
  have f91 := ((((F_bytes_a1.ext E73).other W80 (Or.inr (slot_ne (Or.inr (W 66 rfl)) (Or.inr (W 60 rfl)) (by decide) (t := (.array .byte)) (t' := (.object "java/lang/String")) (by decide) (by decide)))).other W84 (Or.inr (slot_ne (Or.inr (W 66 rfl)) (Or.inr (W 62 rfl)) (by decide) (t := (.array .byte)) (t' := (.object "java/lang/String")) (by decide) (by decide)))).other W88 (Or.inr (slot_ne (Or.inr (W 66 rfl)) (Or.inr (W 64 rfl)) (by decide) (t := (.array .byte)) (t' := (.object "java/lang/String")) (by decide) (by decide))))
  obtain ⟨T92, h92, X92, e92, W92, st92⟩ := putF X88 hx hZ73 hw73 (host := "") (Or.inl (W 65 rfl)) Via.refl e88 f91 f90 (Or.inr ⟨(W 66 rfl), rfl, hnm⟩) (W 47 rfl) (ty := (.array .byte)) (by decide) rfl rfl (g := (mkF m 30 #[.val (.ref a1), .val (.ref a2), .val u, .val (.ref a3), .val .null] [.null, (.ref a1)])) rfl rfl (hb hby dx_prog_44_method_1_code_30)
  have Fw92 := f91.same W92
  have Z93 : n0 ≤ h92.size := Nat.le_trans Z89 (Keep.of_wr W92).1
  have K0_93 : Keep h0 h92 [a1] := K0_89.wr W92 (Or.inl (List.mem_of_getElem? (i := 0) rfl))
  have O93 : Old Z n0 h92 := O89.wr W92 g_a1
  have R93 : CHr Z own_EL s.vm h0 T73.vm h92 := R89.trans (CHr.wr W92 (Safe.exa hZ73.alike f90 (by decide) (by decide)) R89.1)
  have hk93 : k73 ≤ h92.size := Nat.le_trans hk89 (Keep.of_wr W92).1
  have N92 := Fr.snoc X92 N88 g_a1
  have f94 := (f90.wr W92)
  have f95 := (((Fw80.other W84 (Or.inr (slot_ne (Or.inr (W 60 rfl)) (Or.inr (W 62 rfl)) (by decide) (t := (.object "java/lang/String")) (t' := (.object "java/lang/String")) (by decide) (by decide)))).other W88 (Or.inr (slot_ne (Or.inr (W 60 rfl)) (Or.inr (W 64 rfl)) (by decide) (t := (.object "java/lang/String")) (t' := (.object "java/lang/String")) (by decide) (by decide)))).other W92 (Or.inr (slot_ne (Or.inr (W 60 rfl)) (Or.inr (W 66 rfl)) (by decide) (t := (.object "java/lang/String")) (t' := (.array .byte)) (by decide) (by decide))))
  have f96 := ((Fw84.other W88 (Or.inr (slot_ne (Or.inr (W 62 rfl)) (Or.inr (W 64 rfl)) (by decide) (t := (.object "java/lang/String")) (t' := (.object "java/lang/String")) (by decide) (by decide)))).other W92 (Or.inr (slot_ne (Or.inr (W 62 rfl)) (Or.inr (W 66 rfl)) (by decide) (t := (.object "java/lang/String")) (t' := (.array .byte)) (by decide) (by decide))))
  have f97 := (Fw88.other W92 (Or.inr (slot_ne (Or.inr (W 64 rfl)) (Or.inr (W 66 rfl)) (by decide) (t := (.object "java/lang/String")) (t' := (.array .byte)) (by decide) (by decide))))
  obtain ⟨fs, hr, hrun, hended, hend⟩ := Jvm.Stand.leaveW (v := none) X92 hS73 (by rw [e92]; exact hk93) (fun _ => rfl)
  have hFin := R93.trans (CHv.at X92 hZ73 hEL R93.1)
  refine ⟨_, _, pre0 _ ?_, hrun, hended, _, _, rfl, ?_, ?_, own_mono hend (Nat.le_of_ble_eq_true rfl) (Nat.le_of_ble_eq_true rfl)⟩
  · show Steps p.tables e below (s₁.setTop (mkF m 0 #[.val (.ref a1), .val (.ref a2), .val u, .val (.ref a3), .val .null] [])) _
    refine XS.aloadN X0.here hx rfl (hb hby dx_prog_44_method_1_code_0) rfl rfl ?_
    show Steps p.tables e below (s₁.setTop (mkF m 1 #[.val (.ref a1), .val (.ref a2), .val u, .val (.ref a3), .val .null] [(.ref a1)])) _
    refine st72 _ ?_
    show Steps p.tables e below (T72.setTop (mkF m 4 #[.val (.ref a1), .val (.ref a2), .val u, .val (.ref a3), .val .null] [])) _
    refine XS.aloadN X72.here hx rfl (hb hby dx_prog_44_method_1_code_4) rfl rfl ?_
    show Steps p.tables e below (T72.setTop (mkF m 5 #[.val (.ref a1), .val (.ref a2), .val u, .val (.ref a3), .val .null] [(.ref a1)])) _
    refine XS.aloadN X72.here hx rfl (hb hby dx_prog_44_method_1_code_5) rfl rfl ?_
    show Steps p.tables e below (T72.setTop (mkF m 6 #[.val (.ref a1), .val (.ref a2), .val u, .val (.ref a3), .val .null] [(.ref a2), (.ref a1)])) _
    refine st73 _ ?_
    show Steps p.tables e below (T73.setTop (mkF m 8 #[.val (.ref a1), .val (.ref a2), .val u, .val (.ref a3), .val .null] [(.ref a73), (.ref a2), (.ref a1)])) _
    refine st75 _ ?_
    show Steps p.tables e below (T75.setTop (mkF m 11 #[.val (.ref a1), .val (.ref a2), .val u, .val (.ref a3), .val .null] [(.ref a2), (.ref a1)])) _
    refine st77 _ ?_
    show Steps p.tables e below (T77.setTop (mkF m 14 #[.val (.ref a1), .val (.ref a2), .val u, .val (.ref a3), .val .null] [(.ref a2), (.ref a1)])) _
    refine st80 _ ?_
    show Steps p.tables e below (T80.setTop (mkF m 17 #[.val (.ref a1), .val (.ref a2), .val u, .val (.ref a3), .val .null] [])) _
    refine XS.aloadN X80.here hx rfl (hb hby dx_prog_44_method_1_code_17) rfl rfl ?_
    show Steps p.tables e below (T80.setTop (mkF m 18 #[.val (.ref a1), .val (.ref a2), .val u, .val (.ref a3), .val .null] [(.ref a1)])) _
    refine XS.aloadN X80.here hx rfl (hb hby dx_prog_44_method_1_code_18) rfl ru ?_
    show Steps p.tables e below (T80.setTop (mkF m 19 #[.val (.ref a1), .val (.ref a2), .val u, .val (.ref a3), .val .null] [u, (.ref a1)])) _
    refine st84 _ ?_
    show Steps p.tables e below (T84.setTop (mkF m 22 #[.val (.ref a1), .val (.ref a2), .val u, .val (.ref a3), .val .null] [])) _
    refine XS.aloadN X84.here hx rfl (hb hby dx_prog_44_method_1_code_22) rfl rfl ?_
    show Steps p.tables e below (T84.setTop (mkF m 23 #[.val (.ref a1), .val (.ref a2), .val u, .val (.ref a3), .val .null] [(.ref a1)])) _
    refine XS.aloadN X84.here hx rfl (hb hby dx_prog_44_method_1_code_23) rfl rfl ?_
    show Steps p.tables e below (T84.setTop (mkF m 24 #[.val (.ref a1), .val (.ref a2), .val u, .val (.ref a3), .val .null] [(.ref a3), (.ref a1)])) _
    refine st88 _ ?_
    show Steps p.tables e below (T88.setTop (mkF m 27 #[.val (.ref a1), .val (.ref a2), .val u, .val (.ref a3), .val .null] [])) _
    refine XS.aloadN X88.here hx rfl (hb hby dx_prog_44_method_1_code_27) rfl rfl ?_
    show Steps p.tables e below (T88.setTop (mkF m 28 #[.val (.ref a1), .val (.ref a2), .val u, .val (.ref a3), .val .null] [(.ref a1)])) _
    refine XS.aload X88.here hx rfl (hb hby dx_prog_44_method_1_code_28) rfl rfl ?_
    show Steps p.tables e below (T88.setTop (mkF m 30 #[.val (.ref a1), .val (.ref a2), .val u, .val (.ref a3), .val .null] [.null, (.ref a1)])) _
    refine st92 _ ?_
    show Steps p.tables e below (T92.setTop (mkF m 33 #[.val (.ref a1), .val (.ref a2), .val u, .val (.ref a3), .val .null] [])) _
    exact X92.returnOut hx Bd.returns (hb hby dx_prog_44_method_1_code_33) hr
  · show Qmci Z G1 a1 a2 u a3 h0 n0 _ T92.heap _
    rw [e92]
    exact ⟨rfl, N92, K0_93, f94, f95, f96, f97, Fw92⟩
  · show CHr Z own_EL s.vm s.heap T92.vm T92.heap
    rw [hh, e92]
    exact hFin
theorem dx_prog_44_method_2_code_0 : decode prog_44_method_2_code 0 = .ok (.new 18, 3) := by decide +kernel
theorem dx_prog_44_method_2_code_3 : decode prog_44_method_2_code 3 = .ok (.dup, 1) := by decide +kernel
theorem dx_prog_44_method_2_code_4 : decode prog_44_method_2_code 4 = .ok (.aload_n 0, 1) := by decide +kernel
theorem dx_prog_44_method_2_code_5 : decode prog_44_method_2_code 5 = .ok (.aload_n 1, 1) := by decide +kernel
theorem dx_prog_44_method_2_code_6 : decode prog_44_method_2_code 6 = .ok (.aload_n 2, 1) := by decide +kernel
theorem dx_prog_44_method_2_code_7 : decode prog_44_method_2_code 7 = .ok (.ldc 32, 2) := by decide +kernel
theorem dx_prog_44_method_2_code_9 : decode prog_44_method_2_code 9 = .ok (.invokestatic 9, 3) := by decide +kernel
theorem dx_prog_44_method_2_code_12 : decode prog_44_method_2_code 12 = .ok (.checkcast 15, 3) := by decide +kernel
theorem dx_prog_44_method_2_code_15 : decode prog_44_method_2_code 15 = .ok (.aconst_null, 1) := by decide +kernel
theorem dx_prog_44_method_2_code_16 : decode prog_44_method_2_code 16 = .ok (.invokespecial 33, 3) := by decide +kernel
theorem pd__Ljava_lang_String_Ljava_lang_String_Ljava_lang_String__B_V : parseMethodDescriptor "(Ljava/lang/String;Ljava/lang/String;Ljava/lang/String;[B)V" = some ⟨[(.object "java/lang/String"), (.object "java/lang/String"), (.object "java/lang/String"), (.array .byte)], none⟩ := by decide +kernel
theorem dx_prog_44_method_2_code_19 : decode prog_44_method_2_code 19 = .ok (.areturn, 1) := by decide +kernel
def Qmct (Z : State) (G1 : Int32) (a2 : Addr) (u : Value) (a3 : Addr) (h0 : Heap) (n0 : Nat) (v : Option Value) (h : Heap) (L : List Loc) : Prop := ∃ b : Addr, v = some (.ref b) ∧ Fr n0 L ∧ Keep h0 h [] ∧ h0.size ≤ b ∧ Exa Z h b "com/example/larkbridge/larkbridge/mcp/McpResourceContents" ∧ Fld Z h b "com/example/larkbridge/larkbridge/mcp/McpResourceContents" "uri" "Ljava/lang/String;" (.ref a2) ∧ Fld Z h b "com/example/larkbridge/larkbridge/mcp/McpResourceContents" "mimeType" "Ljava/lang/String;" u ∧ Fld Z h b "com/example/larkbridge/larkbridge/mcp/McpResourceContents" "text" "Ljava/lang/String;" (.ref a3) ∧ Fld Z h b "com/example/larkbridge/larkbridge/mcp/McpResourceContents" "bytes" "[B" .null
theorem ef_prog_44_method_2_code_RVR (m : MethodId) (x0 : Addr) (x1 : Value) (x2 : Addr) (r1 : x1.isRef = true) : entryFrame m #[(.ref x0), x1, (.ref x2)] 3 = mkF m 0 #[.val (.ref x0), .val x1, .val (.ref x2)] [] := by
  rcases ref_cases r1 with rfl | ⟨_, rfl⟩ <;>
  (first | rfl | (simp [entryFrame, mkF, argsToLocals, Value.category]; done))
abbrev y9 : MethodName := ⟨"com/example/larkbridge/larkbridge/mcp/McpResourceContents", "text", "(Ljava/lang/String;Ljava/lang/String;Ljava/lang/String;)Lcom/example/larkbridge/larkbridge/mcp/McpResourceContents;"⟩
set_option maxRecDepth 65536 in
set_option maxHeartbeats 40000000 in
theorem rmmct (l : Launch) (Z : State) (a0 : Array Value) (G1 : Int32) (hG : Glob Z a0 G1) (ws : List Jvm.Cond) (a2 : Addr) (u : Value) (a3 : Addr) (h0 : Heap) (n0 : Nat) (Z0 : n0 ≤ h0.size) (X00 : Old Z n0 h0) (E_a2 : Exa Z h0 a2 "java/lang/String") (E_a3 : Exa Z h0 a3 "java/lang/String") (ru : u.isRef = true) :
    MetFree l y9 (head1 (Jvm.Cond.code y9 prog_44_method_2_code 3 (some (.object "com/example/larkbridge/larkbridge/mcp/McpResourceContents")) :: ws) ({ frames := 2, cells := 5, slots := 40, locals := 31 } : Room)) (fun a U => a = #[(.ref a2), u, (.ref a3)] ∧ Z.Warmed39 U.vm ∧ U.heap = h0 ∧ CHv Z own_EL U.vm h0) (fun _ _ _ _ _ => True) (fun _ U o U' => ∃ v L, o = .returned v ∧ Qmct Z G1 a2 u a3 h0 n0 v U'.heap L ∧ CHr Z own_EL U.vm U.heap U'.vm U'.heap ∧ ReturnedEndW U o U' L ({ frames := 2, cells := 5, slots := 40, locals := 31 } : Room).cells ({ frames := 2, cells := 5, slots := 40, locals := 31 } : Room).slots) := by
  obtain ⟨hw, O_cs, P_cs⟩ := id hG
  have W : ∀ (i : Nat) {d : Jvm.Cond}, tables_1[i]? = some d → d.before a0 Z = true := fun i d h => hw d (List.mem_of_getElem? h)
  refine MetFree.of_bodySF (plainFor_of_name pn_com_example_larkbridge_larkbridge_mcp_McpResourceContents) hisR ?_
  intro p e s m args below meth c s₁ Bd hml0 hP hK
  obtain ⟨rfl, hZ, hh, hCH⟩ := hP
  have hx := Bd.exec
  have hby := Bd.bytes
  have hml : c.maxLocals = 3 := hml0
  have hown : s.vm.findClass "com/example/larkbridge/larkbridge/mcp/McpResourceContents" = some m.cls := findClass_of_methodNamed Bd.named
  have hnm := (name_of_methodNamed Bd.named Bd.method).1
  have X0 : Stand p l e ({ frames := 2, cells := 5, slots := 40, locals := 31 } : Room) (s.setVm s.vm) m #[(.ref a2), u, (.ref a3)] below meth c s₁ [] 0 0 := Stand.of_body Bd
  have e0 : s₁.heap = h0 := by rw [← hh, Bd.state]; rfl
  have hS0 : s.Since s.vm h0.size := (State.WarmedH.refl s).since _
  have hk0 : h0.size ≤ h0.size := Nat.le_refl _
  have R0 : CHr Z own_EL s.vm h0 s.vm h0 := CHr.refl hCH
  have hEL := own_ew hw
  have N0 := Fr.nil n0
  have pre0 : ∀ t, Steps p.tables e below (s₁.setTop (mkF m 0 #[.val (.ref a2), .val u, .val (.ref a3)] [])) t → Steps p.tables e below (s₁.setTop (entryFrame m #[(.ref a2), u, (.ref a3)] 3)) t := fun t kk_ => castTop (ef_prog_44_method_2_code_RVR m a2 u a3 ru) kk_
  obtain ⟨T98, h98, X98, e98, E98, A98, D98, -, st98⟩ := newO X0 hx hZ hown (W 46 rfl) (W 47 rfl) (W 44 rfl) e0 (g := (mkF m 0 #[.val (.ref a2), .val u, .val (.ref a3)] [])) rfl (hb hby dx_prog_44_method_2_code_0) (by decide) (by decide)
  obtain ⟨b98, g98⟩ : ∃ z, z = h0.size := ⟨_, rfl⟩
  rw [← g98] at A98 D98 st98
  have Z99 : n0 ≤ h98.size := Nat.le_trans Z0 E98.1
  have K0_99 : Keep h0 h98 [] := (Keep.refl h0 []).ext E98
  have O99 : Old Z n0 h98 := X00.ext E98
  have R99 : CHr Z own_EL s.vm h0 s.vm h98 := R0.trans (CHr.ext E98 R0.1)
  have hk99 : h0.size ≤ h98.size := Nat.le_trans hk0 E98.1
  have lo_b98 : h0.size ≤ b98 := Nat.le_of_eq g98.symm
  have g_b98 : n0 ≤ b98 := Nat.le_trans Z0 lo_b98
  have l0_b98 : h0.size ≤ b98 := Nat.le_trans (Keep.refl h0 []).1 lo_b98
  have F_uri_b98 : Fld Z h98 b98 "com/example/larkbridge/larkbridge/mcp/McpResourceContents" "uri" "Ljava/lang/String;" .null := D98 (Or.inr (W 60 rfl)) (ty := (.object "java/lang/String")) (by decide)
  have F_mimeType_b98 : Fld Z h98 b98 "com/example/larkbridge/larkbridge/mcp/McpResourceContents" "mimeType" "Ljava/lang/String;" .null := D98 (Or.inr (W 62 rfl)) (ty := (.object "java/lang/String")) (by decide)
  have F_text_b98 : Fld Z h98 b98 "com/example/larkbridge/larkbridge/mcp/McpResourceContents" "text" "Ljava/lang/String;" .null := D98 (Or.inr (W 64 rfl)) (ty := (.object "java/lang/String")) (by decide)
  have F_bytes_b98 : Fld Z h98 b98 "com/example/larkbridge/larkbridge/mcp/McpResourceContents" "bytes" "[B" .null := D98 (Or.inr (W 66 rfl)) (ty := (.array .byte)) (by decide)
  obtain ⟨a100, T100, h100, k100, X100, e100, E100, hS100, hk100, hZ100, hw100, hC100, -, st100⟩ := ldcOH X98 hx hZ hown (W 48 rfl) (own_sa hw) e98 hS0 hk99 hEL R99.1 (g := (mkF m 7 #[.val (.ref a2), .val u, .val (.ref a3)] [(.ref a3), u, (.ref a2), (.ref b98), (.ref b98)])) rfl (hb hby dx_prog_44_method_2_code_7) (n := 16) (by decide) (by decide) (by decide) (by decide)
  have Z101 : n0 ≤ h100.size := Nat.le_trans Z99 E100.1
  have K0_101 : Keep h0 h100 [] := K0_99.ext E100
  have O101 : Old Z n0 h100 := O99.ext E100
  have Rb100 : CHr Z own_EL s.vm h0 T100.vm h100 := R99.trans hC100
  -- pc 9: java/util/Objects.requireNonNull
  obtain ⟨_, _, ⟨T102, L102, k102, n102⟩, -, X102, ⟨Lc102, hQ102, l102, y102, z102⟩, st102⟩ := Jvm.LawKit.callS X100 hx (y := y6) hw100 (mvT hZ100 (W 49 rfl)) (mvT hZ100 (W 50 rfl)) (mvT hZ100 (W 51 rfl)) (mvT hZ100 (W 52 rfl)) (by decide) (backOf (W := 4) (rmrnn l Z a0 G1 hG [] a3 a100 h100 n0 Z101 O101) hZ100 (W 52 rfl) (W 51 rfl) (by decide) (by decide)) (g := (mkF m 9 #[.val (.ref a2), .val u, .val (.ref a3)] [(.ref a100), (.ref a3), u, (.ref a2), (.ref b98), (.ref b98)])) rfl (by rw [hml]; rfl) (argsL := [(.ref a3), (.ref a100)]) (rest := [u, (.ref a2), (.ref b98), (.ref b98)]) (lenOf pd__Ljava_lang_Object_Ljava_lang_String__Ljava_lang_Object_ rfl) rfl (by rcases ref_cases ru with h_ | ⟨_, h_⟩ <;> rw [h_] <;> (show 2 * 0 + _ ≤ _; exact Nat.le_of_eq rfl)) (hb hby dx_prog_44_method_2_code_9) (fun _ _ => ⟨rfl, e100, (by decide : 3 + 0 ≤ _), (by decide : 24 + 0 ≤ _)⟩)
  dsimp only [Pt.U, Pt.locs, Pt.cells, Pt.slots] at X102 l102 y102 z102 st102 hQ102
  subst l102 y102 z102
  obtain ⟨rfl, N102q, eq102⟩ := hQ102
  have N102 := Fr.app N0 N102q
  have f103 := ((E_a3.ext E98).ext E100)
  obtain ⟨T104, X104, e104, st104⟩ := castY X102 hx hZ100 hw100 (W 53 rfl) eq102 (Ins.self f103) (g := (mkF m 12 #[.val (.ref a2), .val u, .val (.ref a3)] [(.ref a3), u, (.ref a2), (.ref b98), (.ref b98)])) rfl rfl (hb hby dx_prog_44_method_2_code_12)
  have f106 := (A98.ext E100)
  have f107 := ((E_a2.ext E98).ext E100)
  have f108 := (F_uri_b98.ext E100)
  have f109 := (F_mimeType_b98.ext E100)
  have f110 := (F_text_b98.ext E100)
  have f111 := (F_bytes_b98.ext E100)
  -- pc 16: com/example/larkbridge/larkbridge/mcp/McpResourceContents.<init>
  obtain ⟨_, _, ⟨T105, L105, k105, n105⟩, -, X105, hS105, hG105, ⟨Lc105, hQ105, l105, y105, z105, hC105⟩, st105⟩ := X104.specialBackS hx (y := y8) rfl hw100 (mvT hZ100 (W 54 rfl)) (mvT hZ100 (W 55 rfl)) (mvT hZ100 (W 56 rfl)) (by decide) (backOfSH (s := s) (W := 1) (rmmci l Z a0 G1 hG [] b98 a2 u a3 h100 n0 Z101 O101 f106 g_b98 f107 f108 f109 f110 f111 ru) hZ100 (W 56 rfl) (W 44 rfl) (by decide) (by decide) hEL Rb100.1) (g := (mkF m 16 #[.val (.ref a2), .val u, .val (.ref a3)] [.null, (.ref a3), u, (.ref a2), (.ref b98), (.ref b98)])) rfl (by rw [hml]; rfl) (Steps.refl _) (a := b98) (argsL := [(.ref a2), u, (.ref a3), .null]) (rest := [(.ref b98)]) (lenOf pd__Ljava_lang_String_Ljava_lang_String_Ljava_lang_String__B_V rfl) rfl (by show 2 * 0 + _ ≤ _; exact Nat.le_of_eq rfl) (hb hby dx_prog_44_method_2_code_16) (fun _ _ => ⟨rfl, e104, (by decide : 3 + 2 ≤ _), (by decide : 24 + 16 ≤ _)⟩)
  dsimp only [Pt.U, Pt.locs, Pt.cells, Pt.slots] at X105 l105 y105 z105 st105 hQ105 hS105 hG105 hC105
  subst l105 y105 z105
  have hZ105 : Z.Warmed39 T105.vm := State.Warmed39.trans (t := s.setVm T100.vm) hZ100 hS105.1
  have hw105 : T105.vm.findClass "com/example/larkbridge/larkbridge/mcp/McpResourceContents" = some m.cls := by rw [hS105.1.alike.findClass]; exact hw100
  have hSn105 : s.Since T105.vm T105.heap.size := hS100.trans hS105 (Nat.le_trans hk100 (by have q := hG105; rw [e104] at q; exact q))
  have X105 : Stand p l e _ (s.setVm T105.vm) m _ below meth c T105 _ _ _ := X105
  obtain ⟨rfl, N105q, K105, f105_0, f105_1, f105_2, f105_3, f105_4⟩ := hQ105
  have N105 := Fr.app N102 N105q
  have Z112 : n0 ≤ T105.heap.size := Nat.le_trans Z101 K105.1
  have K0_112 : Keep h0 T105.heap [] := K0_101.trans K105 (allS (Or.inr l0_b98) all0)
  have O112 : Old Z n0 T105.heap := O101.keep K105 (allS g_b98 all0)
  have hkw105 : T105.heap.size ≤ T105.heap.size := Nat.le_refl _
  have Rb105 : CHr Z own_EL s.vm h0 T105.vm T105.heap := Rb100.trans hC105
  obtain ⟨fs, hr, hrun, hended, hend⟩ := Jvm.Stand.leaveW (v := some (.ref b98)) X105 hSn105 hkw105 (fun h => by rw [Bd.returns] at h; cases h)
  have hFin := Rb105.trans (CHv.at X105 hZ105 hEL Rb105.1)
  refine ⟨_, _, pre0 _ ?_, hrun, hended, _, _, rfl, ?_, ?_, own_mono hend (Nat.le_of_ble_eq_true rfl) (Nat.le_of_ble_eq_true rfl)⟩
  · show Steps p.tables e below (s₁.setTop (mkF m 0 #[.val (.ref a2), .val u, .val (.ref a3)] [])) _
    refine st98 _ ?_
    show Steps p.tables e below (T98.setTop (mkF m 3 #[.val (.ref a2), .val u, .val (.ref a3)] [(.ref b98)])) _
    refine XS.dup X98.here hx rfl (hb hby dx_prog_44_method_2_code_3) rfl rfl ?_
    show Steps p.tables e below (T98.setTop (mkF m 4 #[.val (.ref a2), .val u, .val (.ref a3)] [(.ref b98), (.ref b98)])) _
    refine XS.aloadN X98.here hx rfl (hb hby dx_prog_44_method_2_code_4) rfl rfl ?_
    show Steps p.tables e below (T98.setTop (mkF m 5 #[.val (.ref a2), .val u, .val (.ref a3)] [(.ref a2), (.ref b98), (.ref b98)])) _
    refine XS.aloadN X98.here hx rfl (hb hby dx_prog_44_method_2_code_5) rfl ru ?_
    show Steps p.tables e below (T98.setTop (mkF m 6 #[.val (.ref a2), .val u, .val (.ref a3)] [u, (.ref a2), (.ref b98), (.ref b98)])) _
    refine XS.aloadN X98.here hx rfl (hb hby dx_prog_44_method_2_code_6) rfl rfl ?_
    show Steps p.tables e below (T98.setTop (mkF m 7 #[.val (.ref a2), .val u, .val (.ref a3)] [(.ref a3), u, (.ref a2), (.ref b98), (.ref b98)])) _
    refine st100 _ ?_
    show Steps p.tables e below (T100.setTop (mkF m 9 #[.val (.ref a2), .val u, .val (.ref a3)] [(.ref a100), (.ref a3), u, (.ref a2), (.ref b98), (.ref b98)])) _
    refine st102 _ ?_
    show Steps p.tables e below (T102.setTop (mkF m 12 #[.val (.ref a2), .val u, .val (.ref a3)] [(.ref a3), u, (.ref a2), (.ref b98), (.ref b98)])) _
    refine st104 _ ?_
    show Steps p.tables e below (T104.setTop (mkF m 15 #[.val (.ref a2), .val u, .val (.ref a3)] [(.ref a3), u, (.ref a2), (.ref b98), (.ref b98)])) _
    refine XS.aconstNull X104.here hx rfl (hb hby dx_prog_44_method_2_code_15) ?_
    show Steps p.tables e below (T104.setTop (mkF m 16 #[.val (.ref a2), .val u, .val (.ref a3)] [.null, (.ref a3), u, (.ref a2), (.ref b98), (.ref b98)])) _
    refine st105.trans ?_
    show Steps p.tables e below (T105.setTop (mkF m 19 #[.val (.ref a2), .val u, .val (.ref a3)] [(.ref b98)])) _
    exact retOut X105 hx Bd.returns rfl (Or.inr (Or.inr (Or.inr (Or.inr ⟨rfl, rfl, rfl⟩)))) (hb hby dx_prog_44_method_2_code_19) hr
  · show Qmct Z G1 a2 u a3 h0 n0 _ T105.heap _
    exact ⟨b98, rfl, N105, K0_112, l0_b98, f105_0, f105_1, f105_2, f105_3, f105_4⟩
  · show CHr Z own_EL s.vm s.heap T105.vm T105.heap
    rw [hh]
    exact hFin
theorem dx_prog_44_method_4_code_0 : decode prog_44_method_4_code 0 = .ok (.aload_n 0, 1) := by decide +kernel
theorem dx_prog_44_method_4_code_1 : decode prog_44_method_4_code 1 = .ok (.getfield 17, 3) := by decide +kernel
theorem dx_prog_44_method_4_code_4 : decode prog_44_method_4_code 4 = .ok (.areturn, 1) := by decide +kernel
def QG_McpResourceContents_uri (Z : State) (G1 : Int32) (a1 : Addr) (u : Value) (h0 : Heap) (n0 : Nat) (v : Option Value) (h : Heap) (L : List Loc) : Prop := v = some u ∧ Fr n0 L ∧ h = h0
theorem ef_prog_44_method_4_code_R (m : MethodId) (x0 : Addr) : entryFrame m #[(.ref x0)] 1 = mkF m 0 #[.val (.ref x0)] [] := by first | (simp [entryFrame, mkF, argsToLocals, Value.category]; done) | rfl
abbrev y10 : MethodName := ⟨"com/example/larkbridge/larkbridge/mcp/McpResourceContents", "uri", "()Ljava/lang/String;"⟩
set_option maxRecDepth 65536 in
set_option maxHeartbeats 40000000 in
theorem rmG_McpResourceContents_uri (l : Launch) (Z : State) (a0 : Array Value) (G1 : Int32) (hG : Glob Z a0 G1) (ws : List Jvm.Cond) (a1 : Addr) (u : Value) (h0 : Heap) (n0 : Nat) (Z0 : n0 ≤ h0.size) (X00 : Old Z n0 h0) (F_uri_a1 : Fld Z h0 a1 "com/example/larkbridge/larkbridge/mcp/McpResourceContents" "uri" "Ljava/lang/String;" u) (ru : u.isRef = true) :
    MetFree l y10 (head1 (Jvm.Cond.code y10 prog_44_method_4_code 1 (some (.object "java/lang/String")) :: ws) ({ frames := 0, cells := 0, slots := 0, locals := 0 } : Room)) (fun a U => a = #[(.ref a1)] ∧ Z.Warmed39 U.vm ∧ U.heap = h0) (fun _ _ _ _ _ => True) (fun _ U o U' => ∃ v L, o = .returned v ∧ QG_McpResourceContents_uri Z G1 a1 u h0 n0 v U'.heap L ∧ FrameEnd U o U' L ({ frames := 0, cells := 0, slots := 0, locals := 0 } : Room).cells ({ frames := 0, cells := 0, slots := 0, locals := 0 } : Room).slots) := by
  obtain ⟨hw, O_cs, P_cs⟩ := id hG
  have W : ∀ (i : Nat) {d : Jvm.Cond}, tables_1[i]? = some d → d.before a0 Z = true := fun i d h => hw d (List.mem_of_getElem? h)
  refine MetFree.of_bodySF (plainFor_of_name pn_com_example_larkbridge_larkbridge_mcp_McpResourceContents) hisR ?_
  intro p e s m args below meth c s₁ Bd hml0 hP hK
  obtain ⟨rfl, hZ, hh⟩ := hP
  have hx := Bd.exec
  have hby := Bd.bytes
  have hml : c.maxLocals = 1 := hml0
  have hown : s.vm.findClass "com/example/larkbridge/larkbridge/mcp/McpResourceContents" = some m.cls := findClass_of_methodNamed Bd.named
  have hnm := (name_of_methodNamed Bd.named Bd.method).1
  have X0 : Stand p l e ({ frames := 0, cells := 0, slots := 0, locals := 0 } : Room) s m #[(.ref a1)] below meth c s₁ [] 0 0 := Stand.of_body Bd
  have e0 : s₁.heap = h0 := by rw [← hh, Bd.state]; rfl
  have N0 := Fr.nil n0
  have pre0 : ∀ t, Steps p.tables e below (s₁.setTop (mkF m 0 #[.val (.ref a1)] [])) t → Steps p.tables e below (s₁.setTop (entryFrame m #[(.ref a1)] 1)) t := fun t kk_ => castTop (ef_prog_44_method_4_code_R m a1) kk_
  obtain ⟨T113, X113, e113, st113⟩ := getF X0 hx hZ hown (host := "") (Or.inl (W 59 rfl)) Via.refl e0 F_uri_a1 (g := (mkF m 1 #[.val (.ref a1)] [(.ref a1)])) rfl rfl (hb hby dx_prog_44_method_4_code_1)
  obtain ⟨fs, hr, hrun, hended, hW, hsame⟩ := X113.leave (v := some u) (fun h => by rw [Bd.returns] at h; cases h)
  refine ⟨_, _, pre0 _ ?_, hrun, hended, _, _, rfl, ?_, ⟨_, rfl⟩, hW, hsame.mono (Nat.le_of_ble_eq_true rfl) (Nat.le_of_ble_eq_true rfl)⟩
  · show Steps p.tables e below (s₁.setTop (mkF m 0 #[.val (.ref a1)] [])) _
    refine XS.aloadN X0.here hx rfl (hb hby dx_prog_44_method_4_code_0) rfl rfl ?_
    show Steps p.tables e below (s₁.setTop (mkF m 1 #[.val (.ref a1)] [(.ref a1)])) _
    refine st113 _ ?_
    show Steps p.tables e below (T113.setTop (mkF m 4 #[.val (.ref a1)] [u])) _
    exact retOut X113 hx Bd.returns (own_nar rfl ru) (Or.inr (Or.inr (Or.inr (Or.inr ⟨rfl, rfl, ru⟩)))) (hb hby dx_prog_44_method_4_code_4) hr
  · show QG_McpResourceContents_uri Z G1 a1 u h0 n0 _ T113.heap _
    rw [e113]
    exact ⟨rfl, N0, rfl⟩
theorem dx_prog_44_method_5_code_0 : decode prog_44_method_5_code 0 = .ok (.aload_n 0, 1) := by decide +kernel
theorem dx_prog_44_method_5_code_1 : decode prog_44_method_5_code 1 = .ok (.getfield 22, 3) := by decide +kernel
theorem dx_prog_44_method_5_code_4 : decode prog_44_method_5_code 4 = .ok (.areturn, 1) := by decide +kernel
def QG_McpResourceContents_mimeType (Z : State) (G1 : Int32) (a1 : Addr) (u : Value) (h0 : Heap) (n0 : Nat) (v : Option Value) (h : Heap) (L : List Loc) : Prop := v = some u ∧ Fr n0 L ∧ h = h0
theorem ef_prog_44_method_5_code_R (m : MethodId) (x0 : Addr) : entryFrame m #[(.ref x0)] 1 = mkF m 0 #[.val (.ref x0)] [] := by first | (simp [entryFrame, mkF, argsToLocals, Value.category]; done) | rfl
abbrev y11 : MethodName := ⟨"com/example/larkbridge/larkbridge/mcp/McpResourceContents", "mimeType", "()Ljava/lang/String;"⟩
set_option maxRecDepth 65536 in
set_option maxHeartbeats 40000000 in
theorem rmG_McpResourceContents_mimeType (l : Launch) (Z : State) (a0 : Array Value) (G1 : Int32) (hG : Glob Z a0 G1) (ws : List Jvm.Cond) (a1 : Addr) (u : Value) (h0 : Heap) (n0 : Nat) (Z0 : n0 ≤ h0.size) (X00 : Old Z n0 h0) (F_mimeType_a1 : Fld Z h0 a1 "com/example/larkbridge/larkbridge/mcp/McpResourceContents" "mimeType" "Ljava/lang/String;" u) (ru : u.isRef = true) :
    MetFree l y11 (head1 (Jvm.Cond.code y11 prog_44_method_5_code 1 (some (.object "java/lang/String")) :: ws) ({ frames := 0, cells := 0, slots := 0, locals := 0 } : Room)) (fun a U => a = #[(.ref a1)] ∧ Z.Warmed39 U.vm ∧ U.heap = h0) (fun _ _ _ _ _ => True) (fun _ U o U' => ∃ v L, o = .returned v ∧ QG_McpResourceContents_mimeType Z G1 a1 u h0 n0 v U'.heap L ∧ FrameEnd U o U' L ({ frames := 0, cells := 0, slots := 0, locals := 0 } : Room).cells ({ frames := 0, cells := 0, slots := 0, locals := 0 } : Room).slots) := by
  obtain ⟨hw, O_cs, P_cs⟩ := id hG
  have W : ∀ (i : Nat) {d : Jvm.Cond}, tables_1[i]? = some d → d.before a0 Z = true := fun i d h => hw d (List.mem_of_getElem? h)
  refine MetFree.of_bodySF (plainFor_of_name pn_com_example_larkbridge_larkbridge_mcp_McpResourceContents) hisR ?_
  intro p e s m args below meth c s₁ Bd hml0 hP hK
  obtain ⟨rfl, hZ, hh⟩ := hP
  have hx := Bd.exec
  have hby := Bd.bytes
  have hml : c.maxLocals = 1 := hml0
  have hown : s.vm.findClass "com/example/larkbridge/larkbridge/mcp/McpResourceContents" = some m.cls := findClass_of_methodNamed Bd.named
  have hnm := (name_of_methodNamed Bd.named Bd.method).1
  have X0 : Stand p l e ({ frames := 0, cells := 0, slots := 0, locals := 0 } : Room) s m #[(.ref a1)] below meth c s₁ [] 0 0 := Stand.of_body Bd
  have e0 : s₁.heap = h0 := by rw [← hh, Bd.state]; rfl
  have N0 := Fr.nil n0
  have pre0 : ∀ t, Steps p.tables e below (s₁.setTop (mkF m 0 #[.val (.ref a1)] [])) t → Steps p.tables e below (s₁.setTop (entryFrame m #[(.ref a1)] 1)) t := fun t kk_ => castTop (ef_prog_44_method_5_code_R m a1) kk_
  obtain ⟨T114, X114, e114, st114⟩ := getF X0 hx hZ hown (host := "") (Or.inl (W 61 rfl)) Via.refl e0 F_mimeType_a1 (g := (mkF m 1 #[.val (.ref a1)] [(.ref a1)])) rfl rfl (hb hby dx_prog_44_method_5_code_1)
  obtain ⟨fs, hr, hrun, hended, hW, hsame⟩ := X114.leave (v := some u) (fun h => by rw [Bd.returns] at h; cases h)
  refine ⟨_, _, pre0 _ ?_, hrun, hended, _, _, rfl, ?_, ⟨_, rfl⟩, hW, hsame.mono (Nat.le_of_ble_eq_true rfl) (Nat.le_of_ble_eq_true rfl)⟩
  · show Steps p.tables e below (s₁.setTop (mkF m 0 #[.val (.ref a1)] [])) _
    refine XS.aloadN X0.here hx rfl (hb hby dx_prog_44_method_5_code_0) rfl rfl ?_
    show Steps p.tables e below (s₁.setTop (mkF m 1 #[.val (.ref a1)] [(.ref a1)])) _
    refine st114 _ ?_
    show Steps p.tables e below (T114.setTop (mkF m 4 #[.val (.ref a1)] [u])) _
    exact retOut X114 hx Bd.returns (own_nar rfl ru) (Or.inr (Or.inr (Or.inr (Or.inr ⟨rfl, rfl, ru⟩)))) (hb hby dx_prog_44_method_5_code_4) hr
  · show QG_McpResourceContents_mimeType Z G1 a1 u h0 n0 _ T114.heap _
    rw [e114]
    exact ⟨rfl, N0, rfl⟩
theorem dx_prog_44_method_7_code_0 : decode prog_44_method_7_code 0 = .ok (.aload_n 0, 1) := by decide +kernel
theorem dx_prog_44_method_7_code_1 : decode prog_44_method_7_code 1 = .ok (.getfield 25, 3) := by decide +kernel
theorem dx_prog_44_method_7_code_4 : decode prog_44_method_7_code 4 = .ok (.areturn, 1) := by decide +kernel
def QG_McpResourceContents_text (Z : State) (G1 : Int32) (a1 : Addr) (u : Value) (h0 : Heap) (n0 : Nat) (v : Option Value) (h : Heap) (L : List Loc) : Prop := v = some u ∧ Fr n0 L ∧ h = h0
theorem ef_prog_44_method_7_code_R (m : MethodId) (x0 : Addr) : entryFrame m #[(.ref x0)] 1 = mkF m 0 #[.val (.ref x0)] [] := by first | (simp [entryFrame, mkF, argsToLocals, Value.category]; done) | rfl
abbrev y12 : MethodName := ⟨"com/example/larkbridge/larkbridge/mcp/McpResourceContents", "text", "()Ljava/lang/String;"⟩
set_option maxRecDepth 65536 in
set_option maxHeartbeats 40000000 in
theorem rmG_McpResourceContents_text (l : Launch) (Z : State) (a0 : Array Value) (G1 : Int32) (hG : Glob Z a0 G1) (ws : List Jvm.Cond) (a1 : Addr) (u : Value) (h0 : Heap) (n0 : Nat) (Z0 : n0 ≤ h0.size) (X00 : Old Z n0 h0) (F_text_a1 : Fld Z h0 a1 "com/example/larkbridge/larkbridge/mcp/McpResourceContents" "text" "Ljava/lang/String;" u) (ru : u.isRef = true) :
    MetFree l y12 (head1 (Jvm.Cond.code y12 prog_44_method_7_code 1 (some (.object "java/lang/String")) :: ws) ({ frames := 0, cells := 0, slots := 0, locals := 0 } : Room)) (fun a U => a = #[(.ref a1)] ∧ Z.Warmed39 U.vm ∧ U.heap = h0) (fun _ _ _ _ _ => True) (fun _ U o U' => ∃ v L, o = .returned v ∧ QG_McpResourceContents_text Z G1 a1 u h0 n0 v U'.heap L ∧ FrameEnd U o U' L ({ frames := 0, cells := 0, slots := 0, locals := 0 } : Room).cells ({ frames := 0, cells := 0, slots := 0, locals := 0 } : Room).slots) := by
  obtain ⟨hw, O_cs, P_cs⟩ := id hG
  have W : ∀ (i : Nat) {d : Jvm.Cond}, tables_1[i]? = some d → d.before a0 Z = true := fun i d h => hw d (List.mem_of_getElem? h)
  refine MetFree.of_bodySF (plainFor_of_name pn_com_example_larkbridge_larkbridge_mcp_McpResourceContents) hisR ?_
  intro p e s m args below meth c s₁ Bd hml0 hP hK
  obtain ⟨rfl, hZ, hh⟩ := hP
  have hx := Bd.exec
  have hby := Bd.bytes
  have hml : c.maxLocals = 1 := hml0
  have hown : s.vm.findClass "com/example/larkbridge/larkbridge/mcp/McpResourceContents" = some m.cls := findClass_of_methodNamed Bd.named
  have hnm := (name_of_methodNamed Bd.named Bd.method).1
  have X0 : Stand p l e ({ frames := 0, cells := 0, slots := 0, locals := 0 } : Room) s m #[(.ref a1)] below meth c s₁ [] 0 0 := Stand.of_body Bd
  have e0 : s₁.heap = h0 := by rw [← hh, Bd.state]; rfl
  have N0 := Fr.nil n0
  have pre0 : ∀ t, Steps p.tables e below (s₁.setTop (mkF m 0 #[.val (.ref a1)] [])) t → Steps p.tables e below (s₁.setTop (entryFrame m #[(.ref a1)] 1)) t := fun t kk_ => castTop (ef_prog_44_method_7_code_R m a1) kk_
  obtain ⟨T115, X115, e115, st115⟩ := getF X0 hx hZ hown (host := "") (Or.inl (W 63 rfl)) Via.refl e0 F_text_a1 (g := (mkF m 1 #[.val (.ref a1)] [(.ref a1)])) rfl rfl (hb hby dx_prog_44_method_7_code_1)
  obtain ⟨fs, hr, hrun, hended, hW, hsame⟩ := X115.leave (v := some u) (fun h => by rw [Bd.returns] at h; cases h)
  refine ⟨_, _, pre0 _ ?_, hrun, hended, _, _, rfl, ?_, ⟨_, rfl⟩, hW, hsame.mono (Nat.le_of_ble_eq_true rfl) (Nat.le_of_ble_eq_true rfl)⟩
  · show Steps p.tables e below (s₁.setTop (mkF m 0 #[.val (.ref a1)] [])) _
    refine XS.aloadN X0.here hx rfl (hb hby dx_prog_44_method_7_code_0) rfl rfl ?_
    show Steps p.tables e below (s₁.setTop (mkF m 1 #[.val (.ref a1)] [(.ref a1)])) _
    refine st115 _ ?_
    show Steps p.tables e below (T115.setTop (mkF m 4 #[.val (.ref a1)] [u])) _
    exact retOut X115 hx Bd.returns (own_nar rfl ru) (Or.inr (Or.inr (Or.inr (Or.inr ⟨rfl, rfl, ru⟩)))) (hb hby dx_prog_44_method_7_code_4) hr
  · show QG_McpResourceContents_text Z G1 a1 u h0 n0 _ T115.heap _
    rw [e115]
    exact ⟨rfl, N0, rfl⟩
theorem dx_prog_44_method_6_code_0 : decode prog_44_method_6_code 0 = .ok (.aload_n 0, 1) := by decide +kernel
theorem dx_prog_44_method_6_code_1 : decode prog_44_method_6_code 1 = .ok (.getfield 25, 3) := by decide +kernel
theorem dx_prog_44_method_6_code_4 : decode prog_44_method_6_code 4 = .ok (.ifnull 7, 3) := by decide +kernel
theorem dx_prog_44_method_6_code_7 : decode prog_44_method_6_code 7 = .ok (.iconst 1, 1) := by decide +kernel
theorem dx_prog_44_method_6_code_8 : decode prog_44_method_6_code 8 = .ok (.goto 4, 3) := by decide +kernel
theorem dx_prog_44_method_6_code_12 : decode prog_44_method_6_code 12 = .ok (.ireturn, 1) := by decide +kernel
def Qist (Z : State) (G1 : Int32) (a1 : Addr) (a3 : Addr) (h0 : Heap) (n0 : Nat) (v : Option Value) (h : Heap) (L : List Loc) : Prop := v = some (.int (1 : Int32)) ∧ Fr n0 L ∧ h = h0
theorem ef_prog_44_method_6_code_R (m : MethodId) (x0 : Addr) : entryFrame m #[(.ref x0)] 1 = mkF m 0 #[.val (.ref x0)] [] := by first | (simp [entryFrame, mkF, argsToLocals, Value.category]; done) | rfl
abbrev y13 : MethodName := ⟨"com/example/larkbridge/larkbridge/mcp/McpResourceContents", "isText", "()Z"⟩
set_option maxRecDepth 65536 in
set_option maxHeartbeats 40000000 in
theorem rmist (l : Launch) (Z : State) (a0 : Array Value) (G1 : Int32) (hG : Glob Z a0 G1) (ws : List Jvm.Cond) (a1 : Addr) (a3 : Addr) (h0 : Heap) (n0 : Nat) (Z0 : n0 ≤ h0.size) (X00 : Old Z n0 h0) (F_text_a1 : Fld Z h0 a1 "com/example/larkbridge/larkbridge/mcp/McpResourceContents" "text" "Ljava/lang/String;" (.ref a3)) :
    MetFree l y13 (head1 (Jvm.Cond.code y13 prog_44_method_6_code 1 (some .boolean) :: ws) ({ frames := 0, cells := 0, slots := 0, locals := 0 } : Room)) (fun a U => a = #[(.ref a1)] ∧ Z.Warmed39 U.vm ∧ U.heap = h0) (fun _ _ _ _ _ => True) (fun _ U o U' => ∃ v L, o = .returned v ∧ Qist Z G1 a1 a3 h0 n0 v U'.heap L ∧ FrameEnd U o U' L ({ frames := 0, cells := 0, slots := 0, locals := 0 } : Room).cells ({ frames := 0, cells := 0, slots := 0, locals := 0 } : Room).slots) := by
  obtain ⟨hw, O_cs, P_cs⟩ := id hG
  have W : ∀ (i : Nat) {d : Jvm.Cond}, tables_1[i]? = some d → d.before a0 Z = true := fun i d h => hw d (List.mem_of_getElem? h)
  refine MetFree.of_bodySF (plainFor_of_name pn_com_example_larkbridge_larkbridge_mcp_McpResourceContents) hisR ?_
  intro p e s m args below meth c s₁ Bd hml0 hP hK
  obtain ⟨rfl, hZ, hh⟩ := hP
  have hx := Bd.exec
  have hby := Bd.bytes
  have hml : c.maxLocals = 1 := hml0
  have hown : s.vm.findClass "com/example/larkbridge/larkbridge/mcp/McpResourceContents" = some m.cls := findClass_of_methodNamed Bd.named
  have hnm := (name_of_methodNamed Bd.named Bd.method).1
  have X0 : Stand p l e ({ frames := 0, cells := 0, slots := 0, locals := 0 } : Room) s m #[(.ref a1)] below meth c s₁ [] 0 0 := Stand.of_body Bd
  have e0 : s₁.heap = h0 := by rw [← hh, Bd.state]; rfl
  have N0 := Fr.nil n0
  have pre0 : ∀ t, Steps p.tables e below (s₁.setTop (mkF m 0 #[.val (.ref a1)] [])) t → Steps p.tables e below (s₁.setTop (entryFrame m #[(.ref a1)] 1)) t := fun t kk_ => castTop (ef_prog_44_method_6_code_R m a1) kk_
  obtain ⟨T116, X116, e116, st116⟩ := getF X0 hx hZ hown (host := "") (Or.inl (W 63 rfl)) Via.refl e0 F_text_a1 (g := (mkF m 1 #[.val (.ref a1)] [(.ref a1)])) rfl rfl (hb hby dx_prog_44_method_6_code_1)
  obtain ⟨fs, hr, hrun, hended, hW, hsame⟩ := X116.leave (v := some (.int (1 : Int32))) (fun h => by rw [Bd.returns] at h; cases h)
  refine ⟨_, _, pre0 _ ?_, hrun, hended, _, _, rfl, ?_, ⟨_, rfl⟩, hW, hsame.mono (Nat.le_of_ble_eq_true rfl) (Nat.le_of_ble_eq_true rfl)⟩
  · show Steps p.tables e below (s₁.setTop (mkF m 0 #[.val (.ref a1)] [])) _
    refine XS.aloadN X0.here hx rfl (hb hby dx_prog_44_method_6_code_0) rfl rfl ?_
    show Steps p.tables e below (s₁.setTop (mkF m 1 #[.val (.ref a1)] [(.ref a1)])) _
    refine st116 _ ?_
    show Steps p.tables e below (T116.setTop (mkF m 4 #[.val (.ref a1)] [(.ref a3)])) _
    refine XS.ifnullNo X116.here hx rfl (hb hby dx_prog_44_method_6_code_4) rfl ?_
    show Steps p.tables e below (T116.setTop (mkF m 7 #[.val (.ref a1)] [])) _
    refine XS.iconst X116.here hx rfl (hb hby dx_prog_44_method_6_code_7) ?_
    show Steps p.tables e below (T116.setTop (mkF m 8 #[.val (.ref a1)] [(.int (1 : Int32))])) _
    refine XS.goto X116.here hx rfl (pc0 := 8) (pc' := 12) rfl (hb hby dx_prog_44_method_6_code_8) (by decide) (by decide) ?_
    show Steps p.tables e below (T116.setTop (mkF m 12 #[.val (.ref a1)] [(.int (1 : Int32))])) _
    exact retN X116 hx (t := .boolean) Bd.returns (by simp) (hb hby dx_prog_44_method_6_code_12) hr
  · show Qist Z G1 a1 a3 h0 n0 _ T116.heap _
    rw [e116]
    exact ⟨rfl, N0, rfl⟩
theorem dx_prog_44_method_8_code_0 : decode prog_44_method_8_code 0 = .ok (.aload_n 0, 1) := by decide +kernel
theorem dx_prog_44_method_8_code_1 : decode prog_44_method_8_code 1 = .ok (.getfield 28, 3) := by decide +kernel
theorem dx_prog_44_method_8_code_4 : decode prog_44_method_8_code 4 = .ok (.ifnonnull 7, 3) := by decide +kernel
theorem dx_prog_44_method_8_code_7 : decode prog_44_method_8_code 7 = .ok (.aconst_null, 1) := by decide +kernel
theorem dx_prog_44_method_8_code_8 : decode prog_44_method_8_code 8 = .ok (.goto 13, 3) := by decide +kernel
theorem dx_prog_44_method_8_code_21 : decode prog_44_method_8_code 21 = .ok (.areturn, 1) := by decide +kernel
def Qbyt (Z : State) (G1 : Int32) (a1 : Addr) (h0 : Heap) (n0 : Nat) (v : Option Value) (h : Heap) (L : List Loc) : Prop := v = some .null ∧ Fr n0 L ∧ h = h0
theorem ef_prog_44_method_8_code_R (m : MethodId) (x0 : Addr) : entryFrame m #[(.ref x0)] 1 = mkF m 0 #[.val (.ref x0)] [] := by first | (simp [entryFrame, mkF, argsToLocals, Value.category]; done) | rfl
abbrev y14 : MethodName := ⟨"com/example/larkbridge/larkbridge/mcp/McpResourceContents", "bytes", "()[B"⟩
set_option maxRecDepth 65536 in
set_option maxHeartbeats 40000000 in
theorem rmbyt (l : Launch) (Z : State) (a0 : Array Value) (G1 : Int32) (hG : Glob Z a0 G1) (ws : List Jvm.Cond) (a1 : Addr) (h0 : Heap) (n0 : Nat) (Z0 : n0 ≤ h0.size) (X00 : Old Z n0 h0) (F_bytes_a1 : Fld Z h0 a1 "com/example/larkbridge/larkbridge/mcp/McpResourceContents" "bytes" "[B" .null) :
    MetFree l y14 (head1 (Jvm.Cond.code y14 prog_44_method_8_code 1 (some (.array .byte)) :: ws) ({ frames := 0, cells := 0, slots := 0, locals := 0 } : Room)) (fun a U => a = #[(.ref a1)] ∧ Z.Warmed39 U.vm ∧ U.heap = h0) (fun _ _ _ _ _ => True) (fun _ U o U' => ∃ v L, o = .returned v ∧ Qbyt Z G1 a1 h0 n0 v U'.heap L ∧ FrameEnd U o U' L ({ frames := 0, cells := 0, slots := 0, locals := 0 } : Room).cells ({ frames := 0, cells := 0, slots := 0, locals := 0 } : Room).slots) := by
  obtain ⟨hw, O_cs, P_cs⟩ := id hG
  have W : ∀ (i : Nat) {d : Jvm.Cond}, tables_1[i]? = some d → d.before a0 Z = true := fun i d h => hw d (List.mem_of_getElem? h)
  refine MetFree.of_bodySF (plainFor_of_name pn_com_example_larkbridge_larkbridge_mcp_McpResourceContents) hisR ?_
  intro p e s m args below meth c s₁ Bd hml0 hP hK
  obtain ⟨rfl, hZ, hh⟩ := hP
  have hx := Bd.exec
  have hby := Bd.bytes
  have hml : c.maxLocals = 1 := hml0
  have hown : s.vm.findClass "com/example/larkbridge/larkbridge/mcp/McpResourceContents" = some m.cls := findClass_of_methodNamed Bd.named
  have hnm := (name_of_methodNamed Bd.named Bd.method).1
  have X0 : Stand p l e ({ frames := 0, cells := 0, slots := 0, locals := 0 } : Room) s m #[(.ref a1)] below meth c s₁ [] 0 0 := Stand.of_body Bd
  have e0 : s₁.heap = h0 := by rw [← hh, Bd.state]; rfl
  have N0 := Fr.nil n0
  have pre0 : ∀ t, Steps p.tables e below (s₁.setTop (mkF m 0 #[.val (.ref a1)] [])) t → Steps p.tables e below (s₁.setTop (entryFrame m #[(.ref a1)] 1)) t := fun t kk_ => castTop (ef_prog_44_method_8_code_R m a1) kk_
  obtain ⟨T117, X117, e117, st117⟩ := getF X0 hx hZ hown (host := "") (Or.inl (W 65 rfl)) Via.refl e0 F_bytes_a1 (g := (mkF m 1 #[.val (.ref a1)] [(.ref a1)])) rfl rfl (hb hby dx_prog_44_method_8_code_1)
  obtain ⟨fs, hr, hrun, hended, hW, hsame⟩ := X117.leave (v := some .null) (fun h => by rw [Bd.returns] at h; cases h)
  refine ⟨_, _, pre0 _ ?_, hrun, hended, _, _, rfl, ?_, ⟨_, rfl⟩, hW, hsame.mono (Nat.le_of_ble_eq_true rfl) (Nat.le_of_ble_eq_true rfl)⟩
  · show Steps p.tables e below (s₁.setTop (mkF m 0 #[.val (.ref a1)] [])) _
    refine XS.aloadN X0.here hx rfl (hb hby dx_prog_44_method_8_code_0) rfl rfl ?_
    show Steps p.tables e below (s₁.setTop (mkF m 1 #[.val (.ref a1)] [(.ref a1)])) _
    refine st117 _ ?_
    show Steps p.tables e below (T117.setTop (mkF m 4 #[.val (.ref a1)] [.null])) _
    refine XS.ifnonnullNo X117.here hx rfl (hb hby dx_prog_44_method_8_code_4) rfl ?_
    show Steps p.tables e below (T117.setTop (mkF m 7 #[.val (.ref a1)] [])) _
    refine XS.aconstNull X117.here hx rfl (hb hby dx_prog_44_method_8_code_7) ?_
    show Steps p.tables e below (T117.setTop (mkF m 8 #[.val (.ref a1)] [.null])) _
    refine XS.goto X117.here hx rfl (pc0 := 8) (pc' := 21) rfl (hb hby dx_prog_44_method_8_code_8) (by decide) (by decide) ?_
    show Steps p.tables e below (T117.setTop (mkF m 21 #[.val (.ref a1)] [.null])) _
    exact retOut X117 hx Bd.returns rfl (Or.inr (Or.inr (Or.inr (Or.inr ⟨rfl, rfl, rfl⟩)))) (hb hby dx_prog_44_method_8_code_21) hr
  · show Qbyt Z G1 a1 h0 n0 _ T117.heap _
    rw [e117]
    exact ⟨rfl, N0, rfl⟩
theorem dx_jdk_42_method_66_code_0 : decode jdk_42_method_66_code 0 = .ok (.aload_n 0, 1) := by decide +kernel
theorem dx_jdk_42_method_66_code_1 : decode jdk_42_method_66_code 1 = .ok (.aload_n 1, 1) := by decide +kernel
theorem dx_jdk_42_method_66_code_2 : decode jdk_42_method_66_code 2 = .ok (.if_acmp .ne 5, 3) := by decide +kernel
theorem dx_jdk_42_method_66_code_5 : decode jdk_42_method_66_code 5 = .ok (.iconst 1, 1) := by decide +kernel
theorem dx_jdk_42_method_66_code_6 : decode jdk_42_method_66_code 6 = .ok (.ireturn, 1) := by decide +kernel
def Qeqs (Z : State) (G1 : Int32) (a1 : Addr) (h0 : Heap) (n0 : Nat) (v : Option Value) (h : Heap) (L : List Loc) : Prop := v = some (.int (1 : Int32)) ∧ Fr n0 L ∧ h = h0
theorem ef_jdk_42_method_66_code_RR (m : MethodId) (x0 : Addr) (x1 : Addr) : entryFrame m #[(.ref x0), (.ref x1)] 3 = mkF m 0 #[.val (.ref x0), .val (.ref x1), .unset] [] := by first | (simp [entryFrame, mkF, argsToLocals, Value.category]; done) | rfl
abbrev y15 : MethodName := ⟨"java/lang/String", "equals", "(Ljava/lang/Object;)Z"⟩
set_option maxRecDepth 65536 in
set_option maxHeartbeats 40000000 in
theorem rmeqs (l : Launch) (Z : State) (a0 : Array Value) (G1 : Int32) (hG : Glob Z a0 G1) (ws : List Jvm.Cond) (a1 : Addr) (h0 : Heap) (n0 : Nat) (Z0 : n0 ≤ h0.size) (X00 : Old Z n0 h0) :
    MetFree l y15 (head1 (Jvm.Cond.code y15 jdk_42_method_66_code 3 (some .boolean) :: ws) ({ frames := 0, cells := 0, slots := 0, locals := 0 } : Room)) (fun a U => a = #[(.ref a1), (.ref a1)] ∧ Z.Warmed39 U.vm ∧ U.heap = h0) (fun _ _ _ _ _ => True) (fun _ U o U' => ∃ v L, o = .returned v ∧ Qeqs Z G1 a1 h0 n0 v U'.heap L ∧ FrameEnd U o U' L ({ frames := 0, cells := 0, slots := 0, locals := 0 } : Room).cells ({ frames := 0, cells := 0, slots := 0, locals := 0 } : Room).slots) := by
  obtain ⟨hw, O_cs, P_cs⟩ := id hG
  have W : ∀ (i : Nat) {d : Jvm.Cond}, tables_1[i]? = some d → d.before a0 Z = true := fun i d h => hw d (List.mem_of_getElem? h)
  refine MetFree.of_bodySF (plainFor_of_name pn_java_lang_String) hisR ?_
  intro p e s m args below meth c s₁ Bd hml0 hP hK
  obtain ⟨rfl, hZ, hh⟩ := hP
  have hx := Bd.exec
  have hby := Bd.bytes
  have hml : c.maxLocals = 3 := hml0
  have hown : s.vm.findClass "java/lang/String" = some m.cls := findClass_of_methodNamed Bd.named
  have hnm := (name_of_methodNamed Bd.named Bd.method).1
  have X0 : Stand p l e ({ frames := 0, cells := 0, slots := 0, locals := 0 } : Room) s m #[(.ref a1), (.ref a1)] below meth c s₁ [] 0 0 := Stand.of_body Bd
  have e0 : s₁.heap = h0 := by rw [← hh, Bd.state]; rfl
  have N0 := Fr.nil n0
  have pre0 : ∀ t, Steps p.tables e below (s₁.setTop (mkF m 0 #[.val (.ref a1), .val (.ref a1), .unset] [])) t → Steps p.tables e below (s₁.setTop (entryFrame m #[(.ref a1), (.ref a1)] 3)) t := fun t kk_ => castTop (ef_jdk_42_method_66_code_RR m a1 a1) kk_
  obtain ⟨fs, hr, hrun, hended, hW, hsame⟩ := X0.leave (v := some (.int (1 : Int32))) (fun h => by rw [Bd.returns] at h; cases h)
  refine ⟨_, _, pre0 _ ?_, hrun, hended, _, _, rfl, ?_, ⟨_, rfl⟩, hW, hsame.mono (Nat.le_of_ble_eq_true rfl) (Nat.le_of_ble_eq_true rfl)⟩
  · show Steps p.tables e below (s₁.setTop (mkF m 0 #[.val (.ref a1), .val (.ref a1), .unset] [])) _
    refine XS.aloadN X0.here hx rfl (hb hby dx_jdk_42_method_66_code_0) rfl rfl ?_
    show Steps p.tables e below (s₁.setTop (mkF m 1 #[.val (.ref a1), .val (.ref a1), .unset] [(.ref a1)])) _
    refine XS.aloadN X0.here hx rfl (hb hby dx_jdk_42_method_66_code_1) rfl rfl ?_
    show Steps p.tables e below (s₁.setTop (mkF m 2 #[.val (.ref a1), .val (.ref a1), .unset] [(.ref a1), (.ref a1)])) _
    refine Jvm.RoadKit.acmp (g := (mkF m 2 #[.val (.ref a1), .val (.ref a1), .unset] [(.ref a1), (.ref a1)])) X0 hx rfl rfl rfl (pc0 := 2) (pc' := 5) (same := true) rfl (hb hby dx_jdk_42_method_66_code_2) rfl (decide_eq_true rfl) (by decide) (by decide) ?_
    show Steps p.tables e below (s₁.setTop (mkF m 5 #[.val (.ref a1), .val (.ref a1), .unset] [])) _
    refine XS.iconst X0.here hx rfl (hb hby dx_jdk_42_method_66_code_5) ?_
    show Steps p.tables e below (s₁.setTop (mkF m 6 #[.val (.ref a1), .val (.ref a1), .unset] [(.int (1 : Int32))])) _
    exact retN X0 hx (t := .boolean) Bd.returns (by simp) (hb hby dx_jdk_42_method_66_code_6) hr
  · show Qeqs Z G1 a1 h0 n0 _ s₁.heap _
    rw [e0]
    exact ⟨rfl, N0, rfl⟩
theorem pd__II_Ljava_lang_String_ : parseMethodDescriptor "(II)Ljava/lang/String;" = some ⟨[.int, .int], some (.object "java/lang/String")⟩ := by decide +kernel
theorem pd__Ljava_lang_String_Ljava_lang_String_Ljava_lang_String__Lcom_example_larkbridge_larkbridge_mcp_McpResourceContents_ : parseMethodDescriptor "(Ljava/lang/String;Ljava/lang/String;Ljava/lang/String;)Lcom/example/larkbridge/larkbridge/mcp/McpResourceContents;" = some ⟨[(.object "java/lang/String"), (.object "java/lang/String"), (.object "java/lang/String")], some (.object "com/example/larkbridge/larkbridge/mcp/McpResourceContents")⟩ := by decide +kernel
theorem pd___Ljava_lang_String_ : parseMethodDescriptor "()Ljava/lang/String;" = some ⟨[], some (.object "java/lang/String")⟩ := by decide +kernel
theorem pd__Ljava_lang_Object__Z : parseMethodDescriptor "(Ljava/lang/Object;)Z" = some ⟨[(.object "java/lang/Object")], some .boolean⟩ := by decide +kernel
theorem pd___Z : parseMethodDescriptor "()Z" = some ⟨[], some .boolean⟩ := by decide +kernel
theorem pd____B : parseMethodDescriptor "()[B" = some ⟨[], some (.array .byte)⟩ := by decide +kernel
def Q0 (Z : State) (G1 : Int32) (p0 : Int32) (p1 : Int32) (p2 : Int32) (p3 : Int32) (h0 : Heap) (n0 : Nat) (v : Option Value) (h : Heap) (L : List Loc) : Prop := v = some (.int (1 : Int32)) ∧ Fr n0 L ∧ Keep h0 h []
theorem ef_code_IIII (m : MethodId) (x0 : Int32) (x1 : Int32) (x2 : Int32) (x3 : Int32) : entryFrame m #[(.int x0), (.int x1), (.int x2), (.int x3)] maxLocals = mkF m 0 #[.val (.int x0), .val (.int x1), .val (.int x2), .val (.int x3), .unset, .unset, .unset, .unset, .unset, .unset] [] := by first | (simp [entryFrame, mkF, argsToLocals, Value.category, maxLocals]; done) | rfl
set_option maxRecDepth 65536 in
set_option maxHeartbeats 40000000 in
theorem rm0_n (l : Launch) (Z : State) (a0 : Array Value) (G1 : Int32) (hG : Glob Z a0 G1) (ws : List Jvm.Cond) (p0 : Int32) (p1 : Int32) (p2 : Int32) (p3 : Int32) (h0 : Heap) (n0 : Nat) (Z0 : n0 ≤ h0.size) (X00 : Old Z n0 h0) (hc17 : ¬ ((((p3.toUInt32 >>> ((24 : Int32) &&& 31).toUInt32).toInt32) &&& (1 : Int32)) = (0 : Int32))) :
    MetFree l x (head1 (Jvm.Cond.code x code maxLocals ret :: ws) room_1) (fun a U => a = #[(.int p0), (.int p1), (.int p2), (.int p3)] ∧ Z.Warmed39 U.vm ∧ U.heap = h0 ∧ CHv Z own_EL U.vm h0) (fun _ _ _ _ _ => True) (fun _ U o U' => ∃ v L, o = .returned v ∧ Q0 Z G1 p0 p1 p2 p3 h0 n0 v U'.heap L ∧ CHr Z own_EL U.vm U.heap U'.vm U'.heap ∧ ReturnedEndW U o U' L room_1.cells room_1.slots) := by
  obtain ⟨hw, O_cs, P_cs⟩ := id hG
  have W : ∀ (i : Nat) {d : Jvm.Cond}, tables_1[i]? = some d → d.before a0 Z = true := fun i d h => hw d (List.mem_of_getElem? h)
  refine MetFree.of_bodySF (plainFor_of_name pn_com_example_larkbridge_larkbridge_mcp_McpResourceContentsTextPinLaw) hisR ?_
  intro p e s m args below meth c s₁ Bd hml0 hP hK
  obtain ⟨rfl, hZ, hh, hCH⟩ := hP
  have hx := Bd.exec
  have hby := Bd.bytes
  have hml : c.maxLocals = 10 := hml0
  have hown : s.vm.findClass "com/example/larkbridge/larkbridge/mcp/McpResourceContentsTextPinLaw" = some m.cls := findClass_of_methodNamed Bd.named
  have hnm := (name_of_methodNamed Bd.named Bd.method).1
  have X0 : Stand p l e room_1 (s.setVm s.vm) m #[(.int p0), (.int p1), (.int p2), (.int p3)] below meth c s₁ [] 0 0 := Stand.of_body Bd
  have e0 : s₁.heap = h0 := by rw [← hh, Bd.state]; rfl
  have hS0 : s.Since s.vm h0.size := (State.WarmedH.refl s).since _
  have hk0 : h0.size ≤ h0.size := Nat.le_refl _
  have R0 : CHr Z own_EL s.vm h0 s.vm h0 := CHr.refl hCH
  have hEL := own_ew hw
  have N0 := Fr.nil n0
  have pre0 : ∀ t, Steps p.tables e below (s₁.setTop (mkF m 0 #[.val (.int p0), .val (.int p1), .val (.int p2), .val (.int p3), .unset, .unset, .unset, .unset, .unset, .unset] [])) t → Steps p.tables e below (s₁.setTop (entryFrame m #[(.int p0), (.int p1), (.int p2), (.int p3)] maxLocals)) t := fun t kk_ => castTop (ef_code_IIII m p0 p1 p2 p3) kk_
  -- pc 6: com/example/larkbridge/larkbridge/mcp/McpResourceContentsTextPinLaw.draw
  obtain ⟨_, _, ⟨T118, L118, k118, n118⟩, -, X118, hS118, hG118, ⟨Lc118, hQ118, l118, y118, z118, hC118⟩, st118⟩ := callSS X0 hx (y := y7) hown (mvT hZ (W 0 rfl)) (mvT hZ (W 1 rfl)) (mvT hZ (W 2 rfl)) (mvT hZ (W 3 rfl)) (by decide) (backOfSH (s := s) (W := 0) (rmdraw l Z a0 G1 hG [] p0 (p3 &&& (255 : Int32)) h0 n0 Z0 X00) hZ (W 3 rfl) (W 2 rfl) (by decide) (by decide) hEL R0.1) (g := (mkF m 6 #[.val (.int p0), .val (.int p1), .val (.int p2), .val (.int p3), .unset, .unset, .unset, .unset, .unset, .unset] [(.int (p3 &&& (255 : Int32))), (.int p0)])) rfl (by rw [hml]; rfl) (argsL := [(.int p0), (.int (p3 &&& (255 : Int32)))]) (rest := []) (lenOf pd__II_Ljava_lang_String_ rfl) rfl (by show 2 * 0 + _ ≤ _; exact Nat.le_of_eq rfl) (hb hby at_6) (fun _ _ => ⟨rfl, e0, (by decide : 0 + 6 ≤ _), (by decide : 0 + 12 ≤ _)⟩)
  dsimp only [Pt.U, Pt.locs, Pt.cells, Pt.slots] at X118 l118 y118 z118 st118 hQ118 hS118 hG118 hC118
  subst l118 y118 z118
  have hZ118 : Z.Warmed39 T118.vm := State.Warmed39.trans (t := s.setVm s.vm) hZ hS118.1
  have hw118 : T118.vm.findClass "com/example/larkbridge/larkbridge/mcp/McpResourceContentsTextPinLaw" = some m.cls := by rw [hS118.1.alike.findClass]; exact hown
  have hSn118 : s.Since T118.vm T118.heap.size := hS0.trans hS118 (Nat.le_trans hk0 (by have q := hG118; rw [e0] at q; exact q))
  have X118 : Stand p l e _ (s.setVm T118.vm) m _ below meth c T118 _ _ _ := X118
  obtain ⟨b_118, rfl, N118q, K118, f118_0, f118_1⟩ := hQ118
  have N118 := Fr.app N0 N118q
  have Z119 : n0 ≤ T118.heap.size := Nat.le_trans Z0 K118.1
  have K0_119 : Keep h0 T118.heap [] := (Keep.refl h0 []).trans K118 all0
  have O119 : Old Z n0 T118.heap := X00.keep K118 all0
  have hkw118 : T118.heap.size ≤ T118.heap.size := Nat.le_refl _
  have Rb118 : CHr Z own_EL s.vm h0 T118.vm T118.heap := R0.trans hC118
  have lo_b_118 : h0.size ≤ b_118 := f118_0
  have g_b_118 : n0 ≤ b_118 := Nat.le_trans Z0 lo_b_118
  have l0_b_118 : h0.size ≤ b_118 := Nat.le_trans (Keep.refl h0 []).1 lo_b_118
  -- pc 47: com/example/larkbridge/larkbridge/mcp/McpResourceContentsTextPinLaw.draw
  obtain ⟨_, _, ⟨T120, L120, k120, n120⟩, -, X120, hS120, hG120, ⟨Lc120, hQ120, l120, y120, z120, hC120⟩, st120⟩ := callSS X118 hx (y := y7) hw118 (mvT hZ118 (W 0 rfl)) (mvT hZ118 (W 1 rfl)) (mvT hZ118 (W 2 rfl)) (mvT hZ118 (W 3 rfl)) (by decide) (backOfSH (s := s) (W := 0) (rmdraw l Z a0 G1 hG [] p2 (((p3.toUInt32 >>> ((16 : Int32) &&& 31).toUInt32).toInt32) &&& (255 : Int32)) T118.heap n0 Z119 O119) hZ118 (W 3 rfl) (W 2 rfl) (by decide) (by decide) hEL Rb118.1) (g := (mkF m 47 #[.val (.int p0), .val (.int p1), .val (.int p2), .val (.int p3), .val (.ref b_118), .val .null, .unset, .unset, .unset, .unset] [(.int (((p3.toUInt32 >>> ((16 : Int32) &&& 31).toUInt32).toInt32) &&& (255 : Int32))), (.int p2)])) rfl (by rw [hml]; rfl) (argsL := [(.int p2), (.int (((p3.toUInt32 >>> ((16 : Int32) &&& 31).toUInt32).toInt32) &&& (255 : Int32)))]) (rest := []) (lenOf pd__II_Ljava_lang_String_ rfl) rfl (by show 2 * 0 + _ ≤ _; exact Nat.le_of_eq rfl) (hb hby at_47) (fun _ _ => ⟨rfl, rfl, (by decide : 6 + 6 ≤ _), (by decide : 12 + 12 ≤ _)⟩)
  dsimp only [Pt.U, Pt.locs, Pt.cells, Pt.slots] at X120 l120 y120 z120 st120 hQ120 hS120 hG120 hC120
  subst l120 y120 z120
  have hZ120 : Z.Warmed39 T120.vm := State.Warmed39.trans (t := s.setVm T118.vm) hZ118 hS120.1
  have hw120 : T120.vm.findClass "com/example/larkbridge/larkbridge/mcp/McpResourceContentsTextPinLaw" = some m.cls := by rw [hS120.1.alike.findClass]; exact hw118
  have hSn120 : s.Since T120.vm T120.heap.size := hSn118.trans hS120 (Nat.le_trans hkw118 (hG120))
  have X120 : Stand p l e _ (s.setVm T120.vm) m _ below meth c T120 _ _ _ := X120
  obtain ⟨b_120, rfl, N120q, K120, f120_0, f120_1⟩ := hQ120
  have N120 := Fr.app N118 N120q
  have Z121 : n0 ≤ T120.heap.size := Nat.le_trans Z119 K120.1
  have K0_121 : Keep h0 T120.heap [] := K0_119.trans K120 all0
  have O121 : Old Z n0 T120.heap := O119.keep K120 all0
  have hkw120 : T120.heap.size ≤ T120.heap.size := Nat.le_refl _
  have Rb120 : CHr Z own_EL s.vm h0 T120.vm T120.heap := Rb118.trans hC120
  have lo_b_120 : T118.heap.size ≤ b_120 := f120_0
  have g_b_120 : n0 ≤ b_120 := Nat.le_trans Z119 lo_b_120
  have l0_b_120 : h0.size ≤ b_120 := Nat.le_trans K0_119.1 lo_b_120
  have f123 := (f118_1.keep K120)
  -- pc 58: com/example/larkbridge/larkbridge/mcp/McpResourceContents.text
  obtain ⟨_, _, ⟨T122, L122, k122, n122⟩, -, X122, hS122, hG122, ⟨Lc122, hQ122, l122, y122, z122, hC122⟩, st122⟩ := callSS X120 hx (y := y9) hw120 (mvT hZ120 (W 42 rfl)) (mvT hZ120 (W 43 rfl)) (mvT hZ120 (W 44 rfl)) (mvT hZ120 (W 45 rfl)) (by decide) (backOfSH (s := s) (W := 0) (rmmct l Z a0 G1 hG [] b_118 .null b_120 T120.heap n0 Z121 O121 f123 f120_1 rfl) hZ120 (W 45 rfl) (W 44 rfl) (by decide) (by decide) hEL Rb120.1) (g := (mkF m 58 #[.val (.int p0), .val (.int p1), .val (.int p2), .val (.int p3), .val (.ref b_118), .val .null, .val (.ref b_120), .unset, .unset, .unset] [(.ref b_120), .null, (.ref b_118)])) rfl (by rw [hml]; rfl) (argsL := [(.ref b_118), .null, (.ref b_120)]) (rest := []) (lenOf pd__Ljava_lang_String_Ljava_lang_String_Ljava_lang_String__Lcom_example_larkbridge_larkbridge_mcp_McpResourceContents_ rfl) rfl (by show 2 * 0 + _ ≤ _; exact Nat.le_of_eq rfl) (hb hby at_58) (fun _ _ => ⟨rfl, rfl, (by decide : 12 + 5 ≤ _), (by decide : 24 + 40 ≤ _)⟩)
  dsimp only [Pt.U, Pt.locs, Pt.cells, Pt.slots] at X122 l122 y122 z122 st122 hQ122 hS122 hG122 hC122
  subst l122 y122 z122
  have hZ122 : Z.Warmed39 T122.vm := State.Warmed39.trans (t := s.setVm T120.vm) hZ120 hS122.1
  have hw122 : T122.vm.findClass "com/example/larkbridge/larkbridge/mcp/McpResourceContentsTextPinLaw" = some m.cls := by rw [hS122.1.alike.findClass]; exact hw120
  have hSn122 : s.Since T122.vm T122.heap.size := hSn120.trans hS122 (Nat.le_trans hkw120 (hG122))
  have X122 : Stand p l e _ (s.setVm T122.vm) m _ below meth c T122 _ _ _ := X122
  obtain ⟨b_122, rfl, N122q, K122, f122_0, f122_1, f122_2, f122_3, f122_4, f122_5⟩ := hQ122
  have N122 := Fr.app N120 N122q
  have Z124 : n0 ≤ T122.heap.size := Nat.le_trans Z121 K122.1
  have K0_124 : Keep h0 T122.heap [] := K0_121.trans K122 all0
  have O124 : Old Z n0 T122.heap := O121.keep K122 all0
  have hkw122 : T122.heap.size ≤ T122.heap.size := Nat.le_refl _
  have Rb122 : CHr Z own_EL s.vm h0 T122.vm T122.heap := Rb120.trans hC122
  have lo_b_122 : T120.heap.size ≤ b_122 := f122_0
  have g_b_122 : n0 ≤ b_122 := Nat.le_trans Z121 lo_b_122
  have l0_b_122 : h0.size ≤ b_122 := Nat.le_trans K0_121.1 lo_b_122
  obtain ⟨cq125, kq125, q125a, q125b, q125c⟩ := isOf hZ122 rfl f122_1
  -- pc 72: com/example/larkbridge/larkbridge/mcp/McpResourceContents.mimeType
  obtain ⟨_, _, ⟨T125, L125, k125, n125⟩, -, X125, ⟨Lc125, hQ125, l125, y125, z125⟩, st125⟩ := X122.virtualBack hx (y := y11) (z := y11) hw122 (mvT hZ122 (W 67 rfl)) (mvT hZ122 (W 68 rfl)) (notFace_of_selects (args := #[]) (mvT hZ122 (W 70 rfl))) (mvT hZ122 (W 70 rfl)) (mvT hZ122 (W 69 rfl)) (by decide) (backOf (W := 0) (rmG_McpResourceContents_mimeType l Z a0 G1 hG [] b_122 .null T122.heap n0 Z124 O124 f122_3 rfl) hZ122 (W 71 rfl) (W 44 rfl) (by decide) (by decide)) q125a q125c (g := (mkF m 72 #[.val (.int p0), .val (.int p1), .val (.int p2), .val (.int p3), .val (.ref b_118), .val .null, .val (.ref b_120), .val (.ref b_122), .unset, .unset] [(.ref b_122)])) rfl (by rw [hml]; rfl) (Steps.refl _) (argsL := []) (rest := []) (lenOf pd___Ljava_lang_String_ rfl) rfl (by show 2 * 0 + _ ≤ _; exact Nat.le_of_eq rfl) (hb hby at_72) (fun _ _ => ⟨rfl, rfl, (by decide : 17 + 0 ≤ _), (by decide : 64 + 0 ≤ _)⟩)
  dsimp only [Pt.U, Pt.locs, Pt.cells, Pt.slots] at X125 l125 y125 z125 st125 hQ125
  subst l125 y125 z125
  obtain ⟨rfl, N125q, eq125⟩ := hQ125
  have N125 := Fr.app N122 N125q
  obtain ⟨cq126, kq126, q126a, q126b, q126c⟩ := isOf hZ122 eq125 f122_1
  -- pc 108: com/example/larkbridge/larkbridge/mcp/McpResourceContents.uri
  obtain ⟨_, _, ⟨T126, L126, k126, n126⟩, -, X126, ⟨Lc126, hQ126, l126, y126, z126⟩, st126⟩ := X125.virtualBack hx (y := y10) (z := y10) hw122 (mvT hZ122 (W 77 rfl)) (mvT hZ122 (W 78 rfl)) (notFace_of_selects (args := #[]) (mvT hZ122 (W 80 rfl))) (mvT hZ122 (W 80 rfl)) (mvT hZ122 (W 79 rfl)) (by decide) (backOf (W := 1) (rmG_McpResourceContents_uri l Z a0 G1 hG [] b_122 (.ref b_118) T122.heap n0 Z124 O124 f122_2 rfl) hZ122 (W 81 rfl) (W 44 rfl) (by decide) (by decide)) q126a q126c (g := (mkF m 108 #[.val (.int p0), .val (.int p1), .val (.int p2), .val (.int p3), .val (.ref b_118), .val .null, .val (.ref b_120), .val (.ref b_122), .val .null, .val (.int (1 : Int32))] [(.ref b_122), (.ref b_118)])) rfl (by rw [hml]; rfl) (Steps.refl _) (argsL := []) (rest := [(.ref b_118)]) (lenOf pd___Ljava_lang_String_ rfl) rfl (by show 2 * 0 + _ ≤ _; exact Nat.le_of_eq rfl) (hb hby at_108) (fun _ _ => ⟨rfl, eq125, (by decide : 17 + 0 ≤ _), (by decide : 64 + 0 ≤ _)⟩)
  dsimp only [Pt.U, Pt.locs, Pt.cells, Pt.slots] at X126 l126 y126 z126 st126 hQ126
  subst l126 y126 z126
  obtain ⟨rfl, N126q, eq126⟩ := hQ126
  have N126 := Fr.app N125 N126q
  have f128 := (f123.keep K122)
  obtain ⟨cq127, kq127, q127a, q127b, q127c⟩ := isOf hZ122 eq126 f128
  -- pc 111: java/lang/String.equals
  obtain ⟨_, _, ⟨T127, L127, k127, n127⟩, -, X127, ⟨Lc127, hQ127, l127, y127, z127⟩, st127⟩ := X126.virtualBack hx (y := y15) (z := y15) hw122 (mvT hZ122 (W 72 rfl)) (mvT hZ122 (W 73 rfl)) (notFace_of_selects (args := #[]) (mvT hZ122 (W 75 rfl))) (mvT hZ122 (W 75 rfl)) (mvT hZ122 (W 74 rfl)) (by decide) (backOf (W := 0) (rmeqs l Z a0 G1 hG [] b_118 T122.heap n0 Z124 O124) hZ122 (W 76 rfl) (W 7 rfl) (by decide) (by decide)) q127a q127c (g := (mkF m 111 #[.val (.int p0), .val (.int p1), .val (.int p2), .val (.int p3), .val (.ref b_118), .val .null, .val (.ref b_120), .val (.ref b_122), .val .null, .val (.int (1 : Int32))] [(.ref b_118), (.ref b_118)])) rfl (by rw [hml]; rfl) (Steps.refl _) (argsL := [(.ref b_118)]) (rest := []) (lenOf pd__Ljava_lang_Object__Z rfl) rfl (by show 2 * 0 + _ ≤ _; exact Nat.le_of_eq rfl) (hb hby at_111) (fun _ _ => ⟨rfl, eq126, (by decide : 17 + 0 ≤ _), (by decide : 64 + 0 ≤ _)⟩)
  dsimp only [Pt.U, Pt.locs, Pt.cells, Pt.slots] at X127 l127 y127 z127 st127 hQ127
  subst l127 y127 z127
  obtain ⟨rfl, N127q, eq127⟩ := hQ127
  have N127 := Fr.app N126 N127q
  obtain ⟨cq129, kq129, q129a, q129b, q129c⟩ := isOf hZ122 eq127 f122_1
  -- pc 124: com/example/larkbridge/larkbridge/mcp/McpResourceContents.isText
  obtain ⟨_, _, ⟨T129, L129, k129, n129⟩, -, X129, ⟨Lc129, hQ129, l129, y129, z129⟩, st129⟩ := X127.virtualBack hx (y := y13) (z := y13) hw122 (mvT hZ122 (W 82 rfl)) (mvT hZ122 (W 83 rfl)) (notFace_of_selects (args := #[]) (mvT hZ122 (W 85 rfl))) (mvT hZ122 (W 85 rfl)) (mvT hZ122 (W 84 rfl)) (by decide) (backOf (W := 0) (rmist l Z a0 G1 hG [] b_122 b_120 T122.heap n0 Z124 O124 f122_4) hZ122 (W 86 rfl) (W 44 rfl) (by decide) (by decide)) q129a q129c (g := (mkF m 124 #[.val (.int p0), .val (.int p1), .val (.int p2), .val (.int p3), .val (.ref b_118), .val .null, .val (.ref b_120), .val (.ref b_122), .val .null, .val (.int (1 : Int32))] [(.ref b_122)])) rfl (by rw [hml]; rfl) (Steps.refl _) (argsL := []) (rest := []) (lenOf pd___Z rfl) rfl (by show 2 * 0 + _ ≤ _; exact Nat.le_of_eq rfl) (hb hby at_124) (fun _ _ => ⟨rfl, eq127, (by decide : 17 + 0 ≤ _), (by decide : 64 + 0 ≤ _)⟩)
  dsimp only [Pt.U, Pt.locs, Pt.cells, Pt.slots] at X129 l129 y129 z129 st129 hQ129
  subst l129 y129 z129
  obtain ⟨rfl, N129q, eq129⟩ := hQ129
  have N129 := Fr.app N127 N129q
  obtain ⟨cq130, kq130, q130a, q130b, q130c⟩ := isOf hZ122 eq129 f122_1
  -- pc 134: com/example/larkbridge/larkbridge/mcp/McpResourceContents.text
  obtain ⟨_, _, ⟨T130, L130, k130, n130⟩, -, X130, ⟨Lc130, hQ130, l130, y130, z130⟩, st130⟩ := X129.virtualBack hx (y := y12) (z := y12) hw122 (mvT hZ122 (W 87 rfl)) (mvT hZ122 (W 88 rfl)) (notFace_of_selects (args := #[]) (mvT hZ122 (W 90 rfl))) (mvT hZ122 (W 90 rfl)) (mvT hZ122 (W 89 rfl)) (by decide) (backOf (W := 1) (rmG_McpResourceContents_text l Z a0 G1 hG [] b_122 (.ref b_120) T122.heap n0 Z124 O124 f122_4 rfl) hZ122 (W 91 rfl) (W 44 rfl) (by decide) (by decide)) q130a q130c (g := (mkF m 134 #[.val (.int p0), .val (.int p1), .val (.int p2), .val (.int p3), .val (.ref b_118), .val .null, .val (.ref b_120), .val (.ref b_122), .val .null, .val (.int (1 : Int32))] [(.ref b_122), (.ref b_120)])) rfl (by rw [hml]; rfl) (Steps.refl _) (argsL := []) (rest := [(.ref b_120)]) (lenOf pd___Ljava_lang_String_ rfl) rfl (by show 2 * 0 + _ ≤ _; exact Nat.le_of_eq rfl) (hb hby at_134) (fun _ _ => ⟨rfl, eq129, (by decide : 17 + 0 ≤ _), (by decide : 64 + 0 ≤ _)⟩)
  dsimp only [Pt.U, Pt.locs, Pt.cells, Pt.slots] at X130 l130 y130 z130 st130 hQ130
  subst l130 y130 z130
  obtain ⟨rfl, N130q, eq130⟩ := hQ130
  have N130 := Fr.app N129 N130q
  have f132 := (f120_1.keep K122)
  obtain ⟨cq131, kq131, q131a, q131b, q131c⟩ := isOf hZ122 eq130 f132
  -- pc 137: java/lang/String.equals
  obtain ⟨_, _, ⟨T131, L131, k131, n131⟩, -, X131, ⟨Lc131, hQ131, l131, y131, z131⟩, st131⟩ := X130.virtualBack hx (y := y15) (z := y15) hw122 (mvT hZ122 (W 72 rfl)) (mvT hZ122 (W 73 rfl)) (notFace_of_selects (args := #[]) (mvT hZ122 (W 75 rfl))) (mvT hZ122 (W 75 rfl)) (mvT hZ122 (W 74 rfl)) (by decide) (backOf (W := 0) (rmeqs l Z a0 G1 hG [] b_120 T122.heap n0 Z124 O124) hZ122 (W 76 rfl) (W 7 rfl) (by decide) (by decide)) q131a q131c (g := (mkF m 137 #[.val (.int p0), .val (.int p1), .val (.int p2), .val (.int p3), .val (.ref b_118), .val .null, .val (.ref b_120), .val (.ref b_122), .val .null, .val (.int (1 : Int32))] [(.ref b_120), (.ref b_120)])) rfl (by rw [hml]; rfl) (Steps.refl _) (argsL := [(.ref b_120)]) (rest := []) (lenOf pd__Ljava_lang_Object__Z rfl) rfl (by show 2 * 0 + _ ≤ _; exact Nat.le_of_eq rfl) (hb hby at_137) (fun _ _ => ⟨rfl, eq130, (by decide : 17 + 0 ≤ _), (by decide : 64 + 0 ≤ _)⟩)
  dsimp only [Pt.U, Pt.locs, Pt.cells, Pt.slots] at X131 l131 y131 z131 st131 hQ131
  subst l131 y131 z131
  obtain ⟨rfl, N131q, eq131⟩ := hQ131
  have N131 := Fr.app N130 N131q
  obtain ⟨cq133, kq133, q133a, q133b, q133c⟩ := isOf hZ122 eq131 f122_1
  -- pc 145: com/example/larkbridge/larkbridge/mcp/McpResourceContents.bytes
  obtain ⟨_, _, ⟨T133, L133, k133, n133⟩, -, X133, ⟨Lc133, hQ133, l133, y133, z133⟩, st133⟩ := X131.virtualBack hx (y := y14) (z := y14) hw122 (mvT hZ122 (W 92 rfl)) (mvT hZ122 (W 93 rfl)) (notFace_of_selects (args := #[]) (mvT hZ122 (W 95 rfl))) (mvT hZ122 (W 95 rfl)) (mvT hZ122 (W 94 rfl)) (by decide) (backOf (W := 0) (rmbyt l Z a0 G1 hG [] b_122 T122.heap n0 Z124 O124 f122_5) hZ122 (W 96 rfl) (W 44 rfl) (by decide) (by decide)) q133a q133c (g := (mkF m 145 #[.val (.int p0), .val (.int p1), .val (.int p2), .val (.int p3), .val (.ref b_118), .val .null, .val (.ref b_120), .val (.ref b_122), .val .null, .val (.int (1 : Int32))] [(.ref b_122)])) rfl (by rw [hml]; rfl) (Steps.refl _) (argsL := []) (rest := []) (lenOf pd____B rfl) rfl (by show 2 * 0 + _ ≤ _; exact Nat.le_of_eq rfl) (hb hby at_145) (fun _ _ => ⟨rfl, eq131, (by decide : 17 + 0 ≤ _), (by decide : 64 + 0 ≤ _)⟩)
  dsimp only [Pt.U, Pt.locs, Pt.cells, Pt.slots] at X133 l133 y133 z133 st133 hQ133
  subst l133 y133 z133
  obtain ⟨rfl, N133q, eq133⟩ := hQ133
  have N133 := Fr.app N131 N133q
  obtain ⟨fs, hr, hrun, hended, hend⟩ := Jvm.Stand.leaveW (v := some (.int (1 : Int32))) X133 hSn122 (by rw [eq133]; exact hkw122) (fun h => by rw [Bd.returns] at h; cases h)
  have hFin := Rb122.trans (CHv.at X133 hZ122 hEL Rb122.1)
  refine ⟨_, _, pre0 _ ?_, hrun, hended, _, _, rfl, ?_, ?_, own_mono hend (Nat.le_of_ble_eq_true rfl) (Nat.le_of_ble_eq_true rfl)⟩
  · show Steps p.tables e below (s₁.setTop (mkF m 0 #[.val (.int p0), .val (.int p1), .val (.int p2), .val (.int p3), .unset, .unset, .unset, .unset, .unset, .unset] [])) _
    refine XS.iloadN X0.here hx rfl (hb hby at_0) rfl ?_
    show Steps p.tables e below (s₁.setTop (mkF m 1 #[.val (.int p0), .val (.int p1), .val (.int p2), .val (.int p3), .unset, .unset, .unset, .unset, .unset, .unset] [(.int p0)])) _
    refine XS.iloadN X0.here hx rfl (hb hby at_1) rfl ?_
    show Steps p.tables e below (s₁.setTop (mkF m 2 #[.val (.int p0), .val (.int p1), .val (.int p2), .val (.int p3), .unset, .unset, .unset, .unset, .unset, .unset] [(.int p3), (.int p0)])) _
    refine XS.sipush X0.here hx rfl (hb hby at_2) ?_
    show Steps p.tables e below (s₁.setTop (mkF m 5 #[.val (.int p0), .val (.int p1), .val (.int p2), .val (.int p3), .unset, .unset, .unset, .unset, .unset, .unset] [(.int (255 : Int32)), (.int p3), (.int p0)])) _
    refine XS.iand X0.here hx rfl (hb hby at_5) rfl ?_
    show Steps p.tables e below (s₁.setTop (mkF m 6 #[.val (.int p0), .val (.int p1), .val (.int p2), .val (.int p3), .unset, .unset, .unset, .unset, .unset, .unset] [(.int (p3 &&& (255 : Int32))), (.int p0)])) _
    refine st118.trans ?_
    show Steps p.tables e below (T118.setTop (mkF m 9 #[.val (.int p0), .val (.int p1), .val (.int p2), .val (.int p3), .unset, .unset, .unset, .unset, .unset, .unset] [(.ref b_118)])) _
    refine XS.astore X118.here hx rfl (hb hby at_9) rfl rfl (l' := #[.val (.int p0), .val (.int p1), .val (.int p2), .val (.int p3), .val (.ref b_118), .unset, .unset, .unset, .unset, .unset]) rfl ?_
    show Steps p.tables e below (T118.setTop (mkF m 11 #[.val (.int p0), .val (.int p1), .val (.int p2), .val (.int p3), .val (.ref b_118), .unset, .unset, .unset, .unset, .unset] [])) _
    refine XS.iloadN X118.here hx rfl (hb hby at_11) rfl ?_
    show Steps p.tables e below (T118.setTop (mkF m 12 #[.val (.int p0), .val (.int p1), .val (.int p2), .val (.int p3), .val (.ref b_118), .unset, .unset, .unset, .unset, .unset] [(.int p3)])) _
    refine XS.bipush X118.here hx rfl (hb hby at_12) ?_
    show Steps p.tables e below (T118.setTop (mkF m 14 #[.val (.int p0), .val (.int p1), .val (.int p2), .val (.int p3), .val (.ref b_118), .unset, .unset, .unset, .unset, .unset] [(.int (24 : Int32)), (.int p3)])) _
    refine XS.iushr X118.here hx rfl (hb hby at_14) rfl ?_
    show Steps p.tables e below (T118.setTop (mkF m 15 #[.val (.int p0), .val (.int p1), .val (.int p2), .val (.int p3), .val (.ref b_118), .unset, .unset, .unset, .unset, .unset] [(.int ((p3.toUInt32 >>> ((24 : Int32) &&& 31).toUInt32).toInt32))])) _
    refine XS.iconst X118.here hx rfl (hb hby at_15) ?_
    show Steps p.tables e below (T118.setTop (mkF m 16 #[.val (.int p0), .val (.int p1), .val (.int p2), .val (.int p3), .val (.ref b_118), .unset, .unset, .unset, .unset, .unset] [(.int (1 : Int32)), (.int ((p3.toUInt32 >>> ((24 : Int32) &&& 31).toUInt32).toInt32))])) _
    refine XS.iand X118.here hx rfl (hb hby at_16) rfl ?_
    show Steps p.tables e below (T118.setTop (mkF m 17 #[.val (.int p0), .val (.int p1), .val (.int p2), .val (.int p3), .val (.ref b_118), .unset, .unset, .unset, .unset, .unset] [(.int (((p3.toUInt32 >>> ((24 : Int32) &&& 31).toUInt32).toInt32) &&& (1 : Int32)))])) _
    refine XS.ifNo X118.here hx rfl (hb hby at_17) rfl ((if0 _ _).trans (feq (hc17 : ¬ ((((p3.toUInt32 >>> ((24 : Int32) &&& 31).toUInt32).toInt32) &&& (1 : Int32)) = (0 : Int32)))).1) ?_
    show Steps p.tables e below (T118.setTop (mkF m 20 #[.val (.int p0), .val (.int p1), .val (.int p2), .val (.int p3), .val (.ref b_118), .unset, .unset, .unset, .unset, .unset] [])) _
    refine XS.aconstNull X118.here hx rfl (hb hby at_20) ?_
    show Steps p.tables e below (T118.setTop (mkF m 21 #[.val (.int p0), .val (.int p1), .val (.int p2), .val (.int p3), .val (.ref b_118), .unset, .unset, .unset, .unset, .unset] [.null])) _
    refine XS.goto X118.here hx rfl (pc0 := 21) (pc' := 36) rfl (hb hby at_21) (by decide) (by decide) ?_
    show Steps p.tables e below (T118.setTop (mkF m 36 #[.val (.int p0), .val (.int p1), .val (.int p2), .val (.int p3), .val (.ref b_118), .unset, .unset, .unset, .unset, .unset] [.null])) _
    refine XS.astore X118.here hx rfl (hb hby at_36) rfl rfl (l' := #[.val (.int p0), .val (.int p1), .val (.int p2), .val (.int p3), .val (.ref b_118), .val .null, .unset, .unset, .unset, .unset]) rfl ?_
    show Steps p.tables e below (T118.setTop (mkF m 38 #[.val (.int p0), .val (.int p1), .val (.int p2), .val (.int p3), .val (.ref b_118), .val .null, .unset, .unset, .unset, .unset] [])) _
    refine XS.iloadN X118.here hx rfl (hb hby at_38) rfl ?_
    show Steps p.tables e below (T118.setTop (mkF m 39 #[.val (.int p0), .val (.int p1), .val (.int p2), .val (.int p3), .val (.ref b_118), .val .null, .unset, .unset, .unset, .unset] [(.int p2)])) _
    refine XS.iloadN X118.here hx rfl (hb hby at_39) rfl ?_
    show Steps p.tables e below (T118.setTop (mkF m 40 #[.val (.int p0), .val (.int p1), .val (.int p2), .val (.int p3), .val (.ref b_118), .val .null, .unset, .unset, .unset, .unset] [(.int p3), (.int p2)])) _
    refine XS.bipush X118.here hx rfl (hb hby at_40) ?_
    show Steps p.tables e below (T118.setTop (mkF m 42 #[.val (.int p0), .val (.int p1), .val (.int p2), .val (.int p3), .val (.ref b_118), .val .null, .unset, .unset, .unset, .unset] [(.int (16 : Int32)), (.int p3), (.int p2)])) _
    refine XS.iushr X118.here hx rfl (hb hby at_42) rfl ?_
    show Steps p.tables e below (T118.setTop (mkF m 43 #[.val (.int p0), .val (.int p1), .val (.int p2), .val (.int p3), .val (.ref b_118), .val .null, .unset, .unset, .unset, .unset] [(.int ((p3.toUInt32 >>> ((16 : Int32) &&& 31).toUInt32).toInt32)), (.int p2)])) _
    refine XS.sipush X118.here hx rfl (hb hby at_43) ?_
    show Steps p.tables e below (T118.setTop (mkF m 46 #[.val (.int p0), .val (.int p1), .val (.int p2), .val (.int p3), .val (.ref b_118), .val .null, .unset, .unset, .unset, .unset] [(.int (255 : Int32)), (.int ((p3.toUInt32 >>> ((16 : Int32) &&& 31).toUInt32).toInt32)), (.int p2)])) _
    refine XS.iand X118.here hx rfl (hb hby at_46) rfl ?_
    show Steps p.tables e below (T118.setTop (mkF m 47 #[.val (.int p0), .val (.int p1), .val (.int p2), .val (.int p3), .val (.ref b_118), .val .null, .unset, .unset, .unset, .unset] [(.int (((p3.toUInt32 >>> ((16 : Int32) &&& 31).toUInt32).toInt32) &&& (255 : Int32))), (.int p2)])) _
    refine st120.trans ?_
    show Steps p.tables e below (T120.setTop (mkF m 50 #[.val (.int p0), .val (.int p1), .val (.int p2), .val (.int p3), .val (.ref b_118), .val .null, .unset, .unset, .unset, .unset] [(.ref b_120)])) _
    refine XS.astore X120.here hx rfl (hb hby at_50) rfl rfl (l' := #[.val (.int p0), .val (.int p1), .val (.int p2), .val (.int p3), .val (.ref b_118), .val .null, .val (.ref b_120), .unset, .unset, .unset]) rfl ?_
    show Steps p.tables e below (T120.setTop (mkF m 52 #[.val (.int p0), .val (.int p1), .val (.int p2), .val (.int p3), .val (.ref b_118), .val .null, .val (.ref b_120), .unset, .unset, .unset] [])) _
    refine XS.aload X120.here hx rfl (hb hby at_52) rfl rfl ?_
    show Steps p.tables e below (T120.setTop (mkF m 54 #[.val (.int p0), .val (.int p1), .val (.int p2), .val (.int p3), .val (.ref b_118), .val .null, .val (.ref b_120), .unset, .unset, .unset] [(.ref b_118)])) _
    refine XS.aload X120.here hx rfl (hb hby at_54) rfl rfl ?_
    show Steps p.tables e below (T120.setTop (mkF m 56 #[.val (.int p0), .val (.int p1), .val (.int p2), .val (.int p3), .val (.ref b_118), .val .null, .val (.ref b_120), .unset, .unset, .unset] [.null, (.ref b_118)])) _
    refine XS.aload X120.here hx rfl (hb hby at_56) rfl rfl ?_
    show Steps p.tables e below (T120.setTop (mkF m 58 #[.val (.int p0), .val (.int p1), .val (.int p2), .val (.int p3), .val (.ref b_118), .val .null, .val (.ref b_120), .unset, .unset, .unset] [(.ref b_120), .null, (.ref b_118)])) _
    refine st122.trans ?_
    show Steps p.tables e below (T122.setTop (mkF m 61 #[.val (.int p0), .val (.int p1), .val (.int p2), .val (.int p3), .val (.ref b_118), .val .null, .val (.ref b_120), .unset, .unset, .unset] [(.ref b_122)])) _
    refine XS.astore X122.here hx rfl (hb hby at_61) rfl rfl (l' := #[.val (.int p0), .val (.int p1), .val (.int p2), .val (.int p3), .val (.ref b_118), .val .null, .val (.ref b_120), .val (.ref b_122), .unset, .unset]) rfl ?_
    show Steps p.tables e below (T122.setTop (mkF m 63 #[.val (.int p0), .val (.int p1), .val (.int p2), .val (.int p3), .val (.ref b_118), .val .null, .val (.ref b_120), .val (.ref b_122), .unset, .unset] [])) _
    refine XS.aload X122.here hx rfl (hb hby at_63) rfl rfl ?_
    show Steps p.tables e below (T122.setTop (mkF m 65 #[.val (.int p0), .val (.int p1), .val (.int p2), .val (.int p3), .val (.ref b_118), .val .null, .val (.ref b_120), .val (.ref b_122), .unset, .unset] [(.ref b_122)])) _
    refine XS.ifnonnullYes X122.here hx rfl (pc0 := 65) (pc' := 70) rfl (hb hby at_65) rfl (by decide) (by decide) ?_
    show Steps p.tables e below (T122.setTop (mkF m 70 #[.val (.int p0), .val (.int p1), .val (.int p2), .val (.int p3), .val (.ref b_118), .val .null, .val (.ref b_120), .val (.ref b_122), .unset, .unset] [])) _
    refine XS.aload X122.here hx rfl (hb hby at_70) rfl rfl ?_
    show Steps p.tables e below (T122.setTop (mkF m 72 #[.val (.int p0), .val (.int p1), .val (.int p2), .val (.int p3), .val (.ref b_118), .val .null, .val (.ref b_120), .val (.ref b_122), .unset, .unset] [(.ref b_122)])) _
    refine st125.trans ?_
    show Steps p.tables e below (T125.setTop (mkF m 75 #[.val (.int p0), .val (.int p1), .val (.int p2), .val (.int p3), .val (.ref b_118), .val .null, .val (.ref b_120), .val (.ref b_122), .unset, .unset] [.null])) _
    refine XS.astore X125.here hx rfl (hb hby at_75) rfl rfl (l' := #[.val (.int p0), .val (.int p1), .val (.int p2), .val (.int p3), .val (.ref b_118), .val .null, .val (.ref b_120), .val (.ref b_122), .val .null, .unset]) rfl ?_
    show Steps p.tables e below (T125.setTop (mkF m 77 #[.val (.int p0), .val (.int p1), .val (.int p2), .val (.int p3), .val (.ref b_118), .val .null, .val (.ref b_120), .val (.ref b_122), .val .null, .unset] [])) _
    refine XS.aload X125.here hx rfl (hb hby at_77) rfl rfl ?_
    show Steps p.tables e below (T125.setTop (mkF m 79 #[.val (.int p0), .val (.int p1), .val (.int p2), .val (.int p3), .val (.ref b_118), .val .null, .val (.ref b_120), .val (.ref b_122), .val .null, .unset] [.null])) _
    refine XS.ifnonnullNo X125.here hx rfl (hb hby at_79) rfl ?_
    show Steps p.tables e below (T125.setTop (mkF m 82 #[.val (.int p0), .val (.int p1), .val (.int p2), .val (.int p3), .val (.ref b_118), .val .null, .val (.ref b_120), .val (.ref b_122), .val .null, .unset] [])) _
    refine XS.aload X125.here hx rfl (hb hby at_82) rfl rfl ?_
    show Steps p.tables e below (T125.setTop (mkF m 84 #[.val (.int p0), .val (.int p1), .val (.int p2), .val (.int p3), .val (.ref b_118), .val .null, .val (.ref b_120), .val (.ref b_122), .val .null, .unset] [.null])) _
    refine XS.ifnonnullNo X125.here hx rfl (hb hby at_84) rfl ?_
    show Steps p.tables e below (T125.setTop (mkF m 87 #[.val (.int p0), .val (.int p1), .val (.int p2), .val (.int p3), .val (.ref b_118), .val .null, .val (.ref b_120), .val (.ref b_122), .val .null, .unset] [])) _
    refine XS.iconst X125.here hx rfl (hb hby at_87) ?_
    show Steps p.tables e below (T125.setTop (mkF m 88 #[.val (.int p0), .val (.int p1), .val (.int p2), .val (.int p3), .val (.ref b_118), .val .null, .val (.ref b_120), .val (.ref b_122), .val .null, .unset] [(.int (1 : Int32))])) _
    refine XS.goto X125.here hx rfl (pc0 := 88) (pc' := 102) rfl (hb hby at_88) (by decide) (by decide) ?_
    show Steps p.tables e below (T125.setTop (mkF m 102 #[.val (.int p0), .val (.int p1), .val (.int p2), .val (.int p3), .val (.ref b_118), .val .null, .val (.ref b_120), .val (.ref b_122), .val .null, .unset] [(.int (1 : Int32))])) _
    refine XS.istore X125.here hx rfl (hb hby at_102) rfl (l' := #[.val (.int p0), .val (.int p1), .val (.int p2), .val (.int p3), .val (.ref b_118), .val .null, .val (.ref b_120), .val (.ref b_122), .val .null, .val (.int (1 : Int32))]) rfl ?_
    show Steps p.tables e below (T125.setTop (mkF m 104 #[.val (.int p0), .val (.int p1), .val (.int p2), .val (.int p3), .val (.ref b_118), .val .null, .val (.ref b_120), .val (.ref b_122), .val .null, .val (.int (1 : Int32))] [])) _
    refine XS.aload X125.here hx rfl (hb hby at_104) rfl rfl ?_
    show Steps p.tables e below (T125.setTop (mkF m 106 #[.val (.int p0), .val (.int p1), .val (.int p2), .val (.int p3), .val (.ref b_118), .val .null, .val (.ref b_120), .val (.ref b_122), .val .null, .val (.int (1 : Int32))] [(.ref b_118)])) _
    refine XS.aload X125.here hx rfl (hb hby at_106) rfl rfl ?_
    show Steps p.tables e below (T125.setTop (mkF m 108 #[.val (.int p0), .val (.int p1), .val (.int p2), .val (.int p3), .val (.ref b_118), .val .null, .val (.ref b_120), .val (.ref b_122), .val .null, .val (.int (1 : Int32))] [(.ref b_122), (.ref b_118)])) _
    refine st126.trans ?_
    show Steps p.tables e below (T126.setTop (mkF m 111 #[.val (.int p0), .val (.int p1), .val (.int p2), .val (.int p3), .val (.ref b_118), .val .null, .val (.ref b_120), .val (.ref b_122), .val .null, .val (.int (1 : Int32))] [(.ref b_118), (.ref b_118)])) _
    refine st127.trans ?_
    show Steps p.tables e below (T127.setTop (mkF m 114 #[.val (.int p0), .val (.int p1), .val (.int p2), .val (.int p3), .val (.ref b_118), .val .null, .val (.ref b_120), .val (.ref b_122), .val .null, .val (.int (1 : Int32))] [(.int (1 : Int32))])) _
    refine XS.ifNo X127.here hx rfl (hb hby at_114) rfl ((if0 _ _).trans (feq (by decide : ¬ ((1 : Int32) = (0 : Int32)))).1) ?_
    show Steps p.tables e below (T127.setTop (mkF m 117 #[.val (.int p0), .val (.int p1), .val (.int p2), .val (.int p3), .val (.ref b_118), .val .null, .val (.ref b_120), .val (.ref b_122), .val .null, .val (.int (1 : Int32))] [])) _
    refine XS.iload X127.here hx rfl (hb hby at_117) rfl ?_
    show Steps p.tables e below (T127.setTop (mkF m 119 #[.val (.int p0), .val (.int p1), .val (.int p2), .val (.int p3), .val (.ref b_118), .val .null, .val (.ref b_120), .val (.ref b_122), .val .null, .val (.int (1 : Int32))] [(.int (1 : Int32))])) _
    refine XS.ifNo X127.here hx rfl (hb hby at_119) rfl ((if0 _ _).trans (feq (by decide : ¬ ((1 : Int32) = (0 : Int32)))).1) ?_
    show Steps p.tables e below (T127.setTop (mkF m 122 #[.val (.int p0), .val (.int p1), .val (.int p2), .val (.int p3), .val (.ref b_118), .val .null, .val (.ref b_120), .val (.ref b_122), .val .null, .val (.int (1 : Int32))] [])) _
    refine XS.aload X127.here hx rfl (hb hby at_122) rfl rfl ?_
    show Steps p.tables e below (T127.setTop (mkF m 124 #[.val (.int p0), .val (.int p1), .val (.int p2), .val (.int p3), .val (.ref b_118), .val .null, .val (.ref b_120), .val (.ref b_122), .val .null, .val (.int (1 : Int32))] [(.ref b_122)])) _
    refine st129.trans ?_
    show Steps p.tables e below (T129.setTop (mkF m 127 #[.val (.int p0), .val (.int p1), .val (.int p2), .val (.int p3), .val (.ref b_118), .val .null, .val (.ref b_120), .val (.ref b_122), .val .null, .val (.int (1 : Int32))] [(.int (1 : Int32))])) _
    refine XS.ifNo X129.here hx rfl (hb hby at_127) rfl ((if0 _ _).trans (feq (by decide : ¬ ((1 : Int32) = (0 : Int32)))).1) ?_
    show Steps p.tables e below (T129.setTop (mkF m 130 #[.val (.int p0), .val (.int p1), .val (.int p2), .val (.int p3), .val (.ref b_118), .val .null, .val (.ref b_120), .val (.ref b_122), .val .null, .val (.int (1 : Int32))] [])) _
    refine XS.aload X129.here hx rfl (hb hby at_130) rfl rfl ?_
    show Steps p.tables e below (T129.setTop (mkF m 132 #[.val (.int p0), .val (.int p1), .val (.int p2), .val (.int p3), .val (.ref b_118), .val .null, .val (.ref b_120), .val (.ref b_122), .val .null, .val (.int (1 : Int32))] [(.ref b_120)])) _
    refine XS.aload X129.here hx rfl (hb hby at_132) rfl rfl ?_
    show Steps p.tables e below (T129.setTop (mkF m 134 #[.val (.int p0), .val (.int p1), .val (.int p2), .val (.int p3), .val (.ref b_118), .val .null, .val (.ref b_120), .val (.ref b_122), .val .null, .val (.int (1 : Int32))] [(.ref b_122), (.ref b_120)])) _
    refine st130.trans ?_
    show Steps p.tables e below (T130.setTop (mkF m 137 #[.val (.int p0), .val (.int p1), .val (.int p2), .val (.int p3), .val (.ref b_118), .val .null, .val (.ref b_120), .val (.ref b_122), .val .null, .val (.int (1 : Int32))] [(.ref b_120), (.ref b_120)])) _
    refine st131.trans ?_
    show Steps p.tables e below (T131.setTop (mkF m 140 #[.val (.int p0), .val (.int p1), .val (.int p2), .val (.int p3), .val (.ref b_118), .val .null, .val (.ref b_120), .val (.ref b_122), .val .null, .val (.int (1 : Int32))] [(.int (1 : Int32))])) _
    refine XS.ifNo X131.here hx rfl (hb hby at_140) rfl ((if0 _ _).trans (feq (by decide : ¬ ((1 : Int32) = (0 : Int32)))).1) ?_
    show Steps p.tables e below (T131.setTop (mkF m 143 #[.val (.int p0), .val (.int p1), .val (.int p2), .val (.int p3), .val (.ref b_118), .val .null, .val (.ref b_120), .val (.ref b_122), .val .null, .val (.int (1 : Int32))] [])) _
    refine XS.aload X131.here hx rfl (hb hby at_143) rfl rfl ?_
    show Steps p.tables e below (T131.setTop (mkF m 145 #[.val (.int p0), .val (.int p1), .val (.int p2), .val (.int p3), .val (.ref b_118), .val .null, .val (.ref b_120), .val (.ref b_122), .val .null, .val (.int (1 : Int32))] [(.ref b_122)])) _
    refine st133.trans ?_
    show Steps p.tables e below (T133.setTop (mkF m 148 #[.val (.int p0), .val (.int p1), .val (.int p2), .val (.int p3), .val (.ref b_118), .val .null, .val (.ref b_120), .val (.ref b_122), .val .null, .val (.int (1 : Int32))] [.null])) _
    refine XS.ifnonnullNo X133.here hx rfl (hb hby at_148) rfl ?_
    show Steps p.tables e below (T133.setTop (mkF m 151 #[.val (.int p0), .val (.int p1), .val (.int p2), .val (.int p3), .val (.ref b_118), .val .null, .val (.ref b_120), .val (.ref b_122), .val .null, .val (.int (1 : Int32))] [])) _
    refine XS.iconst X133.here hx rfl (hb hby at_151) ?_
    show Steps p.tables e below (T133.setTop (mkF m 152 #[.val (.int p0), .val (.int p1), .val (.int p2), .val (.int p3), .val (.ref b_118), .val .null, .val (.ref b_120), .val (.ref b_122), .val .null, .val (.int (1 : Int32))] [(.int (1 : Int32))])) _
    refine XS.goto X133.here hx rfl (pc0 := 152) (pc' := 156) rfl (hb hby at_152) (by decide) (by decide) ?_
    show Steps p.tables e below (T133.setTop (mkF m 156 #[.val (.int p0), .val (.int p1), .val (.int p2), .val (.int p3), .val (.ref b_118), .val .null, .val (.ref b_120), .val (.ref b_122), .val .null, .val (.int (1 : Int32))] [(.int (1 : Int32))])) _
    exact retN X133 hx (t := .boolean) Bd.returns (by simp) (hb hby at_156) hr
  · show Q0 Z G1 p0 p1 p2 p3 h0 n0 _ T133.heap _
    rw [eq133]
    exact ⟨rfl, N133, K0_124⟩
  · show CHr Z own_EL s.vm s.heap T133.vm T133.heap
    rw [hh, eq133]
    exact hFin
set_option maxRecDepth 65536 in
set_option maxHeartbeats 40000000 in
theorem rm0_r (l : Launch) (Z : State) (a0 : Array Value) (G1 : Int32) (hG : Glob Z a0 G1) (ws : List Jvm.Cond) (p0 : Int32) (p1 : Int32) (p2 : Int32) (p3 : Int32) (h0 : Heap) (n0 : Nat) (Z0 : n0 ≤ h0.size) (X00 : Old Z n0 h0) (hc17 : (((p3.toUInt32 >>> ((24 : Int32) &&& 31).toUInt32).toInt32) &&& (1 : Int32)) = (0 : Int32)) :
    MetFree l x (head1 (Jvm.Cond.code x code maxLocals ret :: ws) room_1) (fun a U => a = #[(.int p0), (.int p1), (.int p2), (.int p3)] ∧ Z.Warmed39 U.vm ∧ U.heap = h0 ∧ CHv Z own_EL U.vm h0) (fun _ _ _ _ _ => True) (fun _ U o U' => ∃ v L, o = .returned v ∧ Q0 Z G1 p0 p1 p2 p3 h0 n0 v U'.heap L ∧ CHr Z own_EL U.vm U.heap U'.vm U'.heap ∧ ReturnedEndW U o U' L room_1.cells room_1.slots) := by
  obtain ⟨hw, O_cs, P_cs⟩ := id hG
  have W : ∀ (i : Nat) {d : Jvm.Cond}, tables_1[i]? = some d → d.before a0 Z = true := fun i d h => hw d (List.mem_of_getElem? h)
  refine MetFree.of_bodySF (plainFor_of_name pn_com_example_larkbridge_larkbridge_mcp_McpResourceContentsTextPinLaw) hisR ?_
  intro p e s m args below meth c s₁ Bd hml0 hP hK
  obtain ⟨rfl, hZ, hh, hCH⟩ := hP
  have hx := Bd.exec
  have hby := Bd.bytes
  have hml : c.maxLocals = 10 := hml0
  have hown : s.vm.findClass "com/example/larkbridge/larkbridge/mcp/McpResourceContentsTextPinLaw" = some m.cls := findClass_of_methodNamed Bd.named
  have hnm := (name_of_methodNamed Bd.named Bd.method).1
  have X0 : Stand p l e room_1 (s.setVm s.vm) m #[(.int p0), (.int p1), (.int p2), (.int p3)] below meth c s₁ [] 0 0 := Stand.of_body Bd
  have e0 : s₁.heap = h0 := by rw [← hh, Bd.state]; rfl
  have hS0 : s.Since s.vm h0.size := (State.WarmedH.refl s).since _
  have hk0 : h0.size ≤ h0.size := Nat.le_refl _
  have R0 : CHr Z own_EL s.vm h0 s.vm h0 := CHr.refl hCH
  have hEL := own_ew hw
  have N0 := Fr.nil n0
  have pre0 : ∀ t, Steps p.tables e below (s₁.setTop (mkF m 0 #[.val (.int p0), .val (.int p1), .val (.int p2), .val (.int p3), .unset, .unset, .unset, .unset, .unset, .unset] [])) t → Steps p.tables e below (s₁.setTop (entryFrame m #[(.int p0), (.int p1), (.int p2), (.int p3)] maxLocals)) t := fun t kk_ => castTop (ef_code_IIII m p0 p1 p2 p3) kk_
  -- pc 6: com/example/larkbridge/larkbridge/mcp/McpResourceContentsTextPinLaw.draw
  obtain ⟨_, _, ⟨T134, L134, k134, n134⟩, -, X134, hS134, hG134, ⟨Lc134, hQ134, l134, y134, z134, hC134⟩, st134⟩ := callSS X0 hx (y := y7) hown (mvT hZ (W 0 rfl)) (mvT hZ (W 1 rfl)) (mvT hZ (W 2 rfl)) (mvT hZ (W 3 rfl)) (by decide) (backOfSH (s := s) (W := 0) (rmdraw l Z a0 G1 hG [] p0 (p3 &&& (255 : Int32)) h0 n0 Z0 X00) hZ (W 3 rfl) (W 2 rfl) (by decide) (by decide) hEL R0.1) (g := (mkF m 6 #[.val (.int p0), .val (.int p1), .val (.int p2), .val (.int p3), .unset, .unset, .unset, .unset, .unset, .unset] [(.int (p3 &&& (255 : Int32))), (.int p0)])) rfl (by rw [hml]; rfl) (argsL := [(.int p0), (.int (p3 &&& (255 : Int32)))]) (rest := []) (lenOf pd__II_Ljava_lang_String_ rfl) rfl (by show 2 * 0 + _ ≤ _; exact Nat.le_of_eq rfl) (hb hby at_6) (fun _ _ => ⟨rfl, e0, (by decide : 0 + 6 ≤ _), (by decide : 0 + 12 ≤ _)⟩)
  dsimp only [Pt.U, Pt.locs, Pt.cells, Pt.slots] at X134 l134 y134 z134 st134 hQ134 hS134 hG134 hC134
  subst l134 y134 z134
  have hZ134 : Z.Warmed39 T134.vm := State.Warmed39.trans (t := s.setVm s.vm) hZ hS134.1
  have hw134 : T134.vm.findClass "com/example/larkbridge/larkbridge/mcp/McpResourceContentsTextPinLaw" = some m.cls := by rw [hS134.1.alike.findClass]; exact hown
  have hSn134 : s.Since T134.vm T134.heap.size := hS0.trans hS134 (Nat.le_trans hk0 (by have q := hG134; rw [e0] at q; exact q))
  have X134 : Stand p l e _ (s.setVm T134.vm) m _ below meth c T134 _ _ _ := X134
  obtain ⟨b_134, rfl, N134q, K134, f134_0, f134_1⟩ := hQ134
  have N134 := Fr.app N0 N134q
  have Z135 : n0 ≤ T134.heap.size := Nat.le_trans Z0 K134.1
  have K0_135 : Keep h0 T134.heap [] := (Keep.refl h0 []).trans K134 all0
  have O135 : Old Z n0 T134.heap := X00.keep K134 all0
  have hkw134 : T134.heap.size ≤ T134.heap.size := Nat.le_refl _
  have Rb134 : CHr Z own_EL s.vm h0 T134.vm T134.heap := R0.trans hC134
  have lo_b_134 : h0.size ≤ b_134 := f134_0
  have g_b_134 : n0 ≤ b_134 := Nat.le_trans Z0 lo_b_134
  have l0_b_134 : h0.size ≤ b_134 := Nat.le_trans (Keep.refl h0 []).1 lo_b_134
  -- pc 33: com/example/larkbridge/larkbridge/mcp/McpResourceContentsTextPinLaw.draw
  obtain ⟨_, _, ⟨T136, L136, k136, n136⟩, -, X136, hS136, hG136, ⟨Lc136, hQ136, l136, y136, z136, hC136⟩, st136⟩ := callSS X134 hx (y := y7) hw134 (mvT hZ134 (W 0 rfl)) (mvT hZ134 (W 1 rfl)) (mvT hZ134 (W 2 rfl)) (mvT hZ134 (W 3 rfl)) (by decide) (backOfSH (s := s) (W := 0) (rmdraw l Z a0 G1 hG [] p1 (((p3.toUInt32 >>> ((8 : Int32) &&& 31).toUInt32).toInt32) &&& (255 : Int32)) T134.heap n0 Z135 O135) hZ134 (W 3 rfl) (W 2 rfl) (by decide) (by decide) hEL Rb134.1) (g := (mkF m 33 #[.val (.int p0), .val (.int p1), .val (.int p2), .val (.int p3), .val (.ref b_134), .unset, .unset, .unset, .unset, .unset] [(.int (((p3.toUInt32 >>> ((8 : Int32) &&& 31).toUInt32).toInt32) &&& (255 : Int32))), (.int p1)])) rfl (by rw [hml]; rfl) (argsL := [(.int p1), (.int (((p3.toUInt32 >>> ((8 : Int32) &&& 31).toUInt32).toInt32) &&& (255 : Int32)))]) (rest := []) (lenOf pd__II_Ljava_lang_String_ rfl) rfl (by show 2 * 0 + _ ≤ _; exact Nat.le_of_eq rfl) (hb hby at_33) (fun _ _ => ⟨rfl, rfl, (by decide : 6 + 6 ≤ _), (by decide : 12 + 12 ≤ _)⟩)
  dsimp only [Pt.U, Pt.locs, Pt.cells, Pt.slots] at X136 l136 y136 z136 st136 hQ136 hS136 hG136 hC136
  subst l136 y136 z136
  have hZ136 : Z.Warmed39 T136.vm := State.Warmed39.trans (t := s.setVm T134.vm) hZ134 hS136.1
  have hw136 : T136.vm.findClass "com/example/larkbridge/larkbridge/mcp/McpResourceContentsTextPinLaw" = some m.cls := by rw [hS136.1.alike.findClass]; exact hw134
  have hSn136 : s.Since T136.vm T136.heap.size := hSn134.trans hS136 (Nat.le_trans hkw134 (hG136))
  have X136 : Stand p l e _ (s.setVm T136.vm) m _ below meth c T136 _ _ _ := X136
  obtain ⟨b_136, rfl, N136q, K136, f136_0, f136_1⟩ := hQ136
  have N136 := Fr.app N134 N136q
  have Z137 : n0 ≤ T136.heap.size := Nat.le_trans Z135 K136.1
  have K0_137 : Keep h0 T136.heap [] := K0_135.trans K136 all0
  have O137 : Old Z n0 T136.heap := O135.keep K136 all0
  have hkw136 : T136.heap.size ≤ T136.heap.size := Nat.le_refl _
  have Rb136 : CHr Z own_EL s.vm h0 T136.vm T136.heap := Rb134.trans hC136
  have lo_b_136 : T134.heap.size ≤ b_136 := f136_0
  have g_b_136 : n0 ≤ b_136 := Nat.le_trans Z135 lo_b_136
  have l0_b_136 : h0.size ≤ b_136 := Nat.le_trans K0_135.1 lo_b_136
  -- pc 47: com/example/larkbridge/larkbridge/mcp/McpResourceContentsTextPinLaw.draw
  obtain ⟨_, _, ⟨T138, L138, k138, n138⟩, -, X138, hS138, hG138, ⟨Lc138, hQ138, l138, y138, z138, hC138⟩, st138⟩ := callSS X136 hx (y := y7) hw136 (mvT hZ136 (W 0 rfl)) (mvT hZ136 (W 1 rfl)) (mvT hZ136 (W 2 rfl)) (mvT hZ136 (W 3 rfl)) (by decide) (backOfSH (s := s) (W := 0) (rmdraw l Z a0 G1 hG [] p2 (((p3.toUInt32 >>> ((16 : Int32) &&& 31).toUInt32).toInt32) &&& (255 : Int32)) T136.heap n0 Z137 O137) hZ136 (W 3 rfl) (W 2 rfl) (by decide) (by decide) hEL Rb136.1) (g := (mkF m 47 #[.val (.int p0), .val (.int p1), .val (.int p2), .val (.int p3), .val (.ref b_134), .val (.ref b_136), .unset, .unset, .unset, .unset] [(.int (((p3.toUInt32 >>> ((16 : Int32) &&& 31).toUInt32).toInt32) &&& (255 : Int32))), (.int p2)])) rfl (by rw [hml]; rfl) (argsL := [(.int p2), (.int (((p3.toUInt32 >>> ((16 : Int32) &&& 31).toUInt32).toInt32) &&& (255 : Int32)))]) (rest := []) (lenOf pd__II_Ljava_lang_String_ rfl) rfl (by show 2 * 0 + _ ≤ _; exact Nat.le_of_eq rfl) (hb hby at_47) (fun _ _ => ⟨rfl, rfl, (by decide : 12 + 6 ≤ _), (by decide : 24 + 12 ≤ _)⟩)
  dsimp only [Pt.U, Pt.locs, Pt.cells, Pt.slots] at X138 l138 y138 z138 st138 hQ138 hS138 hG138 hC138
  subst l138 y138 z138
  have hZ138 : Z.Warmed39 T138.vm := State.Warmed39.trans (t := s.setVm T136.vm) hZ136 hS138.1
  have hw138 : T138.vm.findClass "com/example/larkbridge/larkbridge/mcp/McpResourceContentsTextPinLaw" = some m.cls := by rw [hS138.1.alike.findClass]; exact hw136
  have hSn138 : s.Since T138.vm T138.heap.size := hSn136.trans hS138 (Nat.le_trans hkw136 (hG138))
  have X138 : Stand p l e _ (s.setVm T138.vm) m _ below meth c T138 _ _ _ := X138
  obtain ⟨b_138, rfl, N138q, K138, f138_0, f138_1⟩ := hQ138
  have N138 := Fr.app N136 N138q
  have Z139 : n0 ≤ T138.heap.size := Nat.le_trans Z137 K138.1
  have K0_139 : Keep h0 T138.heap [] := K0_137.trans K138 all0
  have O139 : Old Z n0 T138.heap := O137.keep K138 all0
  have hkw138 : T138.heap.size ≤ T138.heap.size := Nat.le_refl _
  have Rb138 : CHr Z own_EL s.vm h0 T138.vm T138.heap := Rb136.trans hC138
  have lo_b_138 : T136.heap.size ≤ b_138 := f138_0
  have g_b_138 : n0 ≤ b_138 := Nat.le_trans Z137 lo_b_138
  have l0_b_138 : h0.size ≤ b_138 := Nat.le_trans K0_137.1 lo_b_138
  have f141 := ((f134_1.keep K136).keep K138)
  -- pc 58: com/example/larkbridge/larkbridge/mcp/McpResourceContents.text
  obtain ⟨_, _, ⟨T140, L140, k140, n140⟩, -, X140, hS140, hG140, ⟨Lc140, hQ140, l140, y140, z140, hC140⟩, st140⟩ := callSS X138 hx (y := y9) hw138 (mvT hZ138 (W 42 rfl)) (mvT hZ138 (W 43 rfl)) (mvT hZ138 (W 44 rfl)) (mvT hZ138 (W 45 rfl)) (by decide) (backOfSH (s := s) (W := 0) (rmmct l Z a0 G1 hG [] b_134 (.ref b_136) b_138 T138.heap n0 Z139 O139 f141 f138_1 rfl) hZ138 (W 45 rfl) (W 44 rfl) (by decide) (by decide) hEL Rb138.1) (g := (mkF m 58 #[.val (.int p0), .val (.int p1), .val (.int p2), .val (.int p3), .val (.ref b_134), .val (.ref b_136), .val (.ref b_138), .unset, .unset, .unset] [(.ref b_138), (.ref b_136), (.ref b_134)])) rfl (by rw [hml]; rfl) (argsL := [(.ref b_134), (.ref b_136), (.ref b_138)]) (rest := []) (lenOf pd__Ljava_lang_String_Ljava_lang_String_Ljava_lang_String__Lcom_example_larkbridge_larkbridge_mcp_McpResourceContents_ rfl) rfl (by show 2 * 0 + _ ≤ _; exact Nat.le_of_eq rfl) (hb hby at_58) (fun _ _ => ⟨rfl, rfl, (by decide : 18 + 5 ≤ _), (by decide : 36 + 40 ≤ _)⟩)
  dsimp only [Pt.U, Pt.locs, Pt.cells, Pt.slots] at X140 l140 y140 z140 st140 hQ140 hS140 hG140 hC140
  subst l140 y140 z140
  have hZ140 : Z.Warmed39 T140.vm := State.Warmed39.trans (t := s.setVm T138.vm) hZ138 hS140.1
  have hw140 : T140.vm.findClass "com/example/larkbridge/larkbridge/mcp/McpResourceContentsTextPinLaw" = some m.cls := by rw [hS140.1.alike.findClass]; exact hw138
  have hSn140 : s.Since T140.vm T140.heap.size := hSn138.trans hS140 (Nat.le_trans hkw138 (hG140))
  have X140 : Stand p l e _ (s.setVm T140.vm) m _ below meth c T140 _ _ _ := X140
  obtain ⟨b_140, rfl, N140q, K140, f140_0, f140_1, f140_2, f140_3, f140_4, f140_5⟩ := hQ140
  have N140 := Fr.app N138 N140q
  have Z142 : n0 ≤ T140.heap.size := Nat.le_trans Z139 K140.1
  have K0_142 : Keep h0 T140.heap [] := K0_139.trans K140 all0
  have O142 : Old Z n0 T140.heap := O139.keep K140 all0
  have hkw140 : T140.heap.size ≤ T140.heap.size := Nat.le_refl _
  have Rb140 : CHr Z own_EL s.vm h0 T140.vm T140.heap := Rb138.trans hC140
  have lo_b_140 : T138.heap.size ≤ b_140 := f140_0
  have g_b_140 : n0 ≤ b_140 := Nat.le_trans Z139 lo_b_140
  have l0_b_140 : h0.size ≤ b_140 := Nat.le_trans K0_139.1 lo_b_140
  obtain ⟨cq143, kq143, q143a, q143b, q143c⟩ := isOf hZ140 rfl f140_1
  -- pc 72: com/example/larkbridge/larkbridge/mcp/McpResourceContents.mimeType
  obtain ⟨_, _, ⟨T143, L143, k143, n143⟩, -, X143, ⟨Lc143, hQ143, l143, y143, z143⟩, st143⟩ := X140.virtualBack hx (y := y11) (z := y11) hw140 (mvT hZ140 (W 67 rfl)) (mvT hZ140 (W 68 rfl)) (notFace_of_selects (args := #[]) (mvT hZ140 (W 70 rfl))) (mvT hZ140 (W 70 rfl)) (mvT hZ140 (W 69 rfl)) (by decide) (backOf (W := 0) (rmG_McpResourceContents_mimeType l Z a0 G1 hG [] b_140 (.ref b_136) T140.heap n0 Z142 O142 f140_3 rfl) hZ140 (W 71 rfl) (W 44 rfl) (by decide) (by decide)) q143a q143c (g := (mkF m 72 #[.val (.int p0), .val (.int p1), .val (.int p2), .val (.int p3), .val (.ref b_134), .val (.ref b_136), .val (.ref b_138), .val (.ref b_140), .unset, .unset] [(.ref b_140)])) rfl (by rw [hml]; rfl) (Steps.refl _) (argsL := []) (rest := []) (lenOf pd___Ljava_lang_String_ rfl) rfl (by show 2 * 0 + _ ≤ _; exact Nat.le_of_eq rfl) (hb hby at_72) (fun _ _ => ⟨rfl, rfl, (by decide : 23 + 0 ≤ _), (by decide : 76 + 0 ≤ _)⟩)
  dsimp only [Pt.U, Pt.locs, Pt.cells, Pt.slots] at X143 l143 y143 z143 st143 hQ143
  subst l143 y143 z143
  obtain ⟨rfl, N143q, eq143⟩ := hQ143
  have N143 := Fr.app N140 N143q
  have f145 := ((f136_1.keep K138).keep K140)
  obtain ⟨cq144, kq144, q144a, q144b, q144c⟩ := isOf hZ140 eq143 f145
  -- pc 99: java/lang/String.equals
  obtain ⟨_, _, ⟨T144, L144, k144, n144⟩, -, X144, ⟨Lc144, hQ144, l144, y144, z144⟩, st144⟩ := X143.virtualBack hx (y := y15) (z := y15) hw140 (mvT hZ140 (W 72 rfl)) (mvT hZ140 (W 73 rfl)) (notFace_of_selects (args := #[]) (mvT hZ140 (W 75 rfl))) (mvT hZ140 (W 75 rfl)) (mvT hZ140 (W 74 rfl)) (by decide) (backOf (W := 0) (rmeqs l Z a0 G1 hG [] b_136 T140.heap n0 Z142 O142) hZ140 (W 76 rfl) (W 7 rfl) (by decide) (by decide)) q144a q144c (g := (mkF m 99 #[.val (.int p0), .val (.int p1), .val (.int p2), .val (.int p3), .val (.ref b_134), .val (.ref b_136), .val (.ref b_138), .val (.ref b_140), .val (.ref b_136), .unset] [(.ref b_136), (.ref b_136)])) rfl (by rw [hml]; rfl) (Steps.refl _) (argsL := [(.ref b_136)]) (rest := []) (lenOf pd__Ljava_lang_Object__Z rfl) rfl (by show 2 * 0 + _ ≤ _; exact Nat.le_of_eq rfl) (hb hby at_99) (fun _ _ => ⟨rfl, eq143, (by decide : 23 + 0 ≤ _), (by decide : 76 + 0 ≤ _)⟩)
  dsimp only [Pt.U, Pt.locs, Pt.cells, Pt.slots] at X144 l144 y144 z144 st144 hQ144
  subst l144 y144 z144
  obtain ⟨rfl, N144q, eq144⟩ := hQ144
  have N144 := Fr.app N143 N144q
  obtain ⟨cq146, kq146, q146a, q146b, q146c⟩ := isOf hZ140 eq144 f140_1
  -- pc 108: com/example/larkbridge/larkbridge/mcp/McpResourceContents.uri
  obtain ⟨_, _, ⟨T146, L146, k146, n146⟩, -, X146, ⟨Lc146, hQ146, l146, y146, z146⟩, st146⟩ := X144.virtualBack hx (y := y10) (z := y10) hw140 (mvT hZ140 (W 77 rfl)) (mvT hZ140 (W 78 rfl)) (notFace_of_selects (args := #[]) (mvT hZ140 (W 80 rfl))) (mvT hZ140 (W 80 rfl)) (mvT hZ140 (W 79 rfl)) (by decide) (backOf (W := 1) (rmG_McpResourceContents_uri l Z a0 G1 hG [] b_140 (.ref b_134) T140.heap n0 Z142 O142 f140_2 rfl) hZ140 (W 81 rfl) (W 44 rfl) (by decide) (by decide)) q146a q146c (g := (mkF m 108 #[.val (.int p0), .val (.int p1), .val (.int p2), .val (.int p3), .val (.ref b_134), .val (.ref b_136), .val (.ref b_138), .val (.ref b_140), .val (.ref b_136), .val (.int (1 : Int32))] [(.ref b_140), (.ref b_134)])) rfl (by rw [hml]; rfl) (Steps.refl _) (argsL := []) (rest := [(.ref b_134)]) (lenOf pd___Ljava_lang_String_ rfl) rfl (by show 2 * 0 + _ ≤ _; exact Nat.le_of_eq rfl) (hb hby at_108) (fun _ _ => ⟨rfl, eq144, (by decide : 23 + 0 ≤ _), (by decide : 76 + 0 ≤ _)⟩)
  dsimp only [Pt.U, Pt.locs, Pt.cells, Pt.slots] at X146 l146 y146 z146 st146 hQ146
  subst l146 y146 z146
  obtain ⟨rfl, N146q, eq146⟩ := hQ146
  have N146 := Fr.app N144 N146q
  have f148 := (f141.keep K140)
  obtain ⟨cq147, kq147, q147a, q147b, q147c⟩ := isOf hZ140 eq146 f148
  -- pc 111: java/lang/String.equals
  obtain ⟨_, _, ⟨T147, L147, k147, n147⟩, -, X147, ⟨Lc147, hQ147, l147, y147, z147⟩, st147⟩ := X146.virtualBack hx (y := y15) (z := y15) hw140 (mvT hZ140 (W 72 rfl)) (mvT hZ140 (W 73 rfl)) (notFace_of_selects (args := #[]) (mvT hZ140 (W 75 rfl))) (mvT hZ140 (W 75 rfl)) (mvT hZ140 (W 74 rfl)) (by decide) (backOf (W := 0) (rmeqs l Z a0 G1 hG [] b_134 T140.heap n0 Z142 O142) hZ140 (W 76 rfl) (W 7 rfl) (by decide) (by decide)) q147a q147c (g := (mkF m 111 #[.val (.int p0), .val (.int p1), .val (.int p2), .val (.int p3), .val (.ref b_134), .val (.ref b_136), .val (.ref b_138), .val (.ref b_140), .val (.ref b_136), .val (.int (1 : Int32))] [(.ref b_134), (.ref b_134)])) rfl (by rw [hml]; rfl) (Steps.refl _) (argsL := [(.ref b_134)]) (rest := []) (lenOf pd__Ljava_lang_Object__Z rfl) rfl (by show 2 * 0 + _ ≤ _; exact Nat.le_of_eq rfl) (hb hby at_111) (fun _ _ => ⟨rfl, eq146, (by decide : 23 + 0 ≤ _), (by decide : 76 + 0 ≤ _)⟩)
  dsimp only [Pt.U, Pt.locs, Pt.cells, Pt.slots] at X147 l147 y147 z147 st147 hQ147
  subst l147 y147 z147
  obtain ⟨rfl, N147q, eq147⟩ := hQ147
  have N147 := Fr.app N146 N147q
  obtain ⟨cq149, kq149, q149a, q149b, q149c⟩ := isOf hZ140 eq147 f140_1
  -- pc 124: com/example/larkbridge/larkbridge/mcp/McpResourceContents.isText
  obtain ⟨_, _, ⟨T149, L149, k149, n149⟩, -, X149, ⟨Lc149, hQ149, l149, y149, z149⟩, st149⟩ := X147.virtualBack hx (y := y13) (z := y13) hw140 (mvT hZ140 (W 82 rfl)) (mvT hZ140 (W 83 rfl)) (notFace_of_selects (args := #[]) (mvT hZ140 (W 85 rfl))) (mvT hZ140 (W 85 rfl)) (mvT hZ140 (W 84 rfl)) (by decide) (backOf (W := 0) (rmist l Z a0 G1 hG [] b_140 b_138 T140.heap n0 Z142 O142 f140_4) hZ140 (W 86 rfl) (W 44 rfl) (by decide) (by decide)) q149a q149c (g := (mkF m 124 #[.val (.int p0), .val (.int p1), .val (.int p2), .val (.int p3), .val (.ref b_134), .val (.ref b_136), .val (.ref b_138), .val (.ref b_140), .val (.ref b_136), .val (.int (1 : Int32))] [(.ref b_140)])) rfl (by rw [hml]; rfl) (Steps.refl _) (argsL := []) (rest := []) (lenOf pd___Z rfl) rfl (by show 2 * 0 + _ ≤ _; exact Nat.le_of_eq rfl) (hb hby at_124) (fun _ _ => ⟨rfl, eq147, (by decide : 23 + 0 ≤ _), (by decide : 76 + 0 ≤ _)⟩)
  dsimp only [Pt.U, Pt.locs, Pt.cells, Pt.slots] at X149 l149 y149 z149 st149 hQ149
  subst l149 y149 z149
  obtain ⟨rfl, N149q, eq149⟩ := hQ149
  have N149 := Fr.app N147 N149q
  obtain ⟨cq150, kq150, q150a, q150b, q150c⟩ := isOf hZ140 eq149 f140_1
  -- pc 134: com/example/larkbridge/larkbridge/mcp/McpResourceContents.text
  obtain ⟨_, _, ⟨T150, L150, k150, n150⟩, -, X150, ⟨Lc150, hQ150, l150, y150, z150⟩, st150⟩ := X149.virtualBack hx (y := y12) (z := y12) hw140 (mvT hZ140 (W 87 rfl)) (mvT hZ140 (W 88 rfl)) (notFace_of_selects (args := #[]) (mvT hZ140 (W 90 rfl))) (mvT hZ140 (W 90 rfl)) (mvT hZ140 (W 89 rfl)) (by decide) (backOf (W := 1) (rmG_McpResourceContents_text l Z a0 G1 hG [] b_140 (.ref b_138) T140.heap n0 Z142 O142 f140_4 rfl) hZ140 (W 91 rfl) (W 44 rfl) (by decide) (by decide)) q150a q150c (g := (mkF m 134 #[.val (.int p0), .val (.int p1), .val (.int p2), .val (.int p3), .val (.ref b_134), .val (.ref b_136), .val (.ref b_138), .val (.ref b_140), .val (.ref b_136), .val (.int (1 : Int32))] [(.ref b_140), (.ref b_138)])) rfl (by rw [hml]; rfl) (Steps.refl _) (argsL := []) (rest := [(.ref b_138)]) (lenOf pd___Ljava_lang_String_ rfl) rfl (by show 2 * 0 + _ ≤ _; exact Nat.le_of_eq rfl) (hb hby at_134) (fun _ _ => ⟨rfl, eq149, (by decide : 23 + 0 ≤ _), (by decide : 76 + 0 ≤ _)⟩)
  dsimp only [Pt.U, Pt.locs, Pt.cells, Pt.slots] at X150 l150 y150 z150 st150 hQ150
  subst l150 y150 z150
  obtain ⟨rfl, N150q, eq150⟩ := hQ150
  have N150 := Fr.app N149 N150q
  have f152 := (f138_1.keep K140)
  obtain ⟨cq151, kq151, q151a, q151b, q151c⟩ := isOf hZ140 eq150 f152
  -- pc 137: java/lang/String.equals
  obtain ⟨_, _, ⟨T151, L151, k151, n151⟩, -, X151, ⟨Lc151, hQ151, l151, y151, z151⟩, st151⟩ := X150.virtualBack hx (y := y15) (z := y15) hw140 (mvT hZ140 (W 72 rfl)) (mvT hZ140 (W 73 rfl)) (notFace_of_selects (args := #[]) (mvT hZ140 (W 75 rfl))) (mvT hZ140 (W 75 rfl)) (mvT hZ140 (W 74 rfl)) (by decide) (backOf (W := 0) (rmeqs l Z a0 G1 hG [] b_138 T140.heap n0 Z142 O142) hZ140 (W 76 rfl) (W 7 rfl) (by decide) (by decide)) q151a q151c (g := (mkF m 137 #[.val (.int p0), .val (.int p1), .val (.int p2), .val (.int p3), .val (.ref b_134), .val (.ref b_136), .val (.ref b_138), .val (.ref b_140), .val (.ref b_136), .val (.int (1 : Int32))] [(.ref b_138), (.ref b_138)])) rfl (by rw [hml]; rfl) (Steps.refl _) (argsL := [(.ref b_138)]) (rest := []) (lenOf pd__Ljava_lang_Object__Z rfl) rfl (by show 2 * 0 + _ ≤ _; exact Nat.le_of_eq rfl) (hb hby at_137) (fun _ _ => ⟨rfl, eq150, (by decide : 23 + 0 ≤ _), (by decide : 76 + 0 ≤ _)⟩)
  dsimp only [Pt.U, Pt.locs, Pt.cells, Pt.slots] at X151 l151 y151 z151 st151 hQ151
  subst l151 y151 z151
  obtain ⟨rfl, N151q, eq151⟩ := hQ151
  have N151 := Fr.app N150 N151q
  obtain ⟨cq153, kq153, q153a, q153b, q153c⟩ := isOf hZ140 eq151 f140_1
  -- pc 145: com/example/larkbridge/larkbridge/mcp/McpResourceContents.bytes
  obtain ⟨_, _, ⟨T153, L153, k153, n153⟩, -, X153, ⟨Lc153, hQ153, l153, y153, z153⟩, st153⟩ := X151.virtualBack hx (y := y14) (z := y14) hw140 (mvT hZ140 (W 92 rfl)) (mvT hZ140 (W 93 rfl)) (notFace_of_selects (args := #[]) (mvT hZ140 (W 95 rfl))) (mvT hZ140 (W 95 rfl)) (mvT hZ140 (W 94 rfl)) (by decide) (backOf (W := 0) (rmbyt l Z a0 G1 hG [] b_140 T140.heap n0 Z142 O142 f140_5) hZ140 (W 96 rfl) (W 44 rfl) (by decide) (by decide)) q153a q153c (g := (mkF m 145 #[.val (.int p0), .val (.int p1), .val (.int p2), .val (.int p3), .val (.ref b_134), .val (.ref b_136), .val (.ref b_138), .val (.ref b_140), .val (.ref b_136), .val (.int (1 : Int32))] [(.ref b_140)])) rfl (by rw [hml]; rfl) (Steps.refl _) (argsL := []) (rest := []) (lenOf pd____B rfl) rfl (by show 2 * 0 + _ ≤ _; exact Nat.le_of_eq rfl) (hb hby at_145) (fun _ _ => ⟨rfl, eq151, (by decide : 23 + 0 ≤ _), (by decide : 76 + 0 ≤ _)⟩)
  dsimp only [Pt.U, Pt.locs, Pt.cells, Pt.slots] at X153 l153 y153 z153 st153 hQ153
  subst l153 y153 z153
  obtain ⟨rfl, N153q, eq153⟩ := hQ153
  have N153 := Fr.app N151 N153q
  obtain ⟨fs, hr, hrun, hended, hend⟩ := Jvm.Stand.leaveW (v := some (.int (1 : Int32))) X153 hSn140 (by rw [eq153]; exact hkw140) (fun h => by rw [Bd.returns] at h; cases h)
  have hFin := Rb140.trans (CHv.at X153 hZ140 hEL Rb140.1)
  refine ⟨_, _, pre0 _ ?_, hrun, hended, _, _, rfl, ?_, ?_, own_mono hend (Nat.le_of_ble_eq_true rfl) (Nat.le_of_ble_eq_true rfl)⟩
  · show Steps p.tables e below (s₁.setTop (mkF m 0 #[.val (.int p0), .val (.int p1), .val (.int p2), .val (.int p3), .unset, .unset, .unset, .unset, .unset, .unset] [])) _
    refine XS.iloadN X0.here hx rfl (hb hby at_0) rfl ?_
    show Steps p.tables e below (s₁.setTop (mkF m 1 #[.val (.int p0), .val (.int p1), .val (.int p2), .val (.int p3), .unset, .unset, .unset, .unset, .unset, .unset] [(.int p0)])) _
    refine XS.iloadN X0.here hx rfl (hb hby at_1) rfl ?_
    show Steps p.tables e below (s₁.setTop (mkF m 2 #[.val (.int p0), .val (.int p1), .val (.int p2), .val (.int p3), .unset, .unset, .unset, .unset, .unset, .unset] [(.int p3), (.int p0)])) _
    refine XS.sipush X0.here hx rfl (hb hby at_2) ?_
    show Steps p.tables e below (s₁.setTop (mkF m 5 #[.val (.int p0), .val (.int p1), .val (.int p2), .val (.int p3), .unset, .unset, .unset, .unset, .unset, .unset] [(.int (255 : Int32)), (.int p3), (.int p0)])) _
    refine XS.iand X0.here hx rfl (hb hby at_5) rfl ?_
    show Steps p.tables e below (s₁.setTop (mkF m 6 #[.val (.int p0), .val (.int p1), .val (.int p2), .val (.int p3), .unset, .unset, .unset, .unset, .unset, .unset] [(.int (p3 &&& (255 : Int32))), (.int p0)])) _
    refine st134.trans ?_
    show Steps p.tables e below (T134.setTop (mkF m 9 #[.val (.int p0), .val (.int p1), .val (.int p2), .val (.int p3), .unset, .unset, .unset, .unset, .unset, .unset] [(.ref b_134)])) _
    refine XS.astore X134.here hx rfl (hb hby at_9) rfl rfl (l' := #[.val (.int p0), .val (.int p1), .val (.int p2), .val (.int p3), .val (.ref b_134), .unset, .unset, .unset, .unset, .unset]) rfl ?_
    show Steps p.tables e below (T134.setTop (mkF m 11 #[.val (.int p0), .val (.int p1), .val (.int p2), .val (.int p3), .val (.ref b_134), .unset, .unset, .unset, .unset, .unset] [])) _
    refine XS.iloadN X134.here hx rfl (hb hby at_11) rfl ?_
    show Steps p.tables e below (T134.setTop (mkF m 12 #[.val (.int p0), .val (.int p1), .val (.int p2), .val (.int p3), .val (.ref b_134), .unset, .unset, .unset, .unset, .unset] [(.int p3)])) _
    refine XS.bipush X134.here hx rfl (hb hby at_12) ?_
    show Steps p.tables e below (T134.setTop (mkF m 14 #[.val (.int p0), .val (.int p1), .val (.int p2), .val (.int p3), .val (.ref b_134), .unset, .unset, .unset, .unset, .unset] [(.int (24 : Int32)), (.int p3)])) _
    refine XS.iushr X134.here hx rfl (hb hby at_14) rfl ?_
    show Steps p.tables e below (T134.setTop (mkF m 15 #[.val (.int p0), .val (.int p1), .val (.int p2), .val (.int p3), .val (.ref b_134), .unset, .unset, .unset, .unset, .unset] [(.int ((p3.toUInt32 >>> ((24 : Int32) &&& 31).toUInt32).toInt32))])) _
    refine XS.iconst X134.here hx rfl (hb hby at_15) ?_
    show Steps p.tables e below (T134.setTop (mkF m 16 #[.val (.int p0), .val (.int p1), .val (.int p2), .val (.int p3), .val (.ref b_134), .unset, .unset, .unset, .unset, .unset] [(.int (1 : Int32)), (.int ((p3.toUInt32 >>> ((24 : Int32) &&& 31).toUInt32).toInt32))])) _
    refine XS.iand X134.here hx rfl (hb hby at_16) rfl ?_
    show Steps p.tables e below (T134.setTop (mkF m 17 #[.val (.int p0), .val (.int p1), .val (.int p2), .val (.int p3), .val (.ref b_134), .unset, .unset, .unset, .unset, .unset] [(.int (((p3.toUInt32 >>> ((24 : Int32) &&& 31).toUInt32).toInt32) &&& (1 : Int32)))])) _
    refine XS.ifYes X134.here hx rfl (pc0 := 17) (pc' := 24) rfl (hb hby at_17) rfl ((if0 _ _).trans (teq (hc17 : (((p3.toUInt32 >>> ((24 : Int32) &&& 31).toUInt32).toInt32) &&& (1 : Int32)) = (0 : Int32))).1) (by decide) (by decide) ?_
    show Steps p.tables e below (T134.setTop (mkF m 24 #[.val (.int p0), .val (.int p1), .val (.int p2), .val (.int p3), .val (.ref b_134), .unset, .unset, .unset, .unset, .unset] [])) _
    refine XS.iloadN X134.here hx rfl (hb hby at_24) rfl ?_
    show Steps p.tables e below (T134.setTop (mkF m 25 #[.val (.int p0), .val (.int p1), .val (.int p2), .val (.int p3), .val (.ref b_134), .unset, .unset, .unset, .unset, .unset] [(.int p1)])) _
    refine XS.iloadN X134.here hx rfl (hb hby at_25) rfl ?_
    show Steps p.tables e below (T134.setTop (mkF m 26 #[.val (.int p0), .val (.int p1), .val (.int p2), .val (.int p3), .val (.ref b_134), .unset, .unset, .unset, .unset, .unset] [(.int p3), (.int p1)])) _
    refine XS.bipush X134.here hx rfl (hb hby at_26) ?_
    show Steps p.tables e below (T134.setTop (mkF m 28 #[.val (.int p0), .val (.int p1), .val (.int p2), .val (.int p3), .val (.ref b_134), .unset, .unset, .unset, .unset, .unset] [(.int (8 : Int32)), (.int p3), (.int p1)])) _
    refine XS.iushr X134.here hx rfl (hb hby at_28) rfl ?_
    show Steps p.tables e below (T134.setTop (mkF m 29 #[.val (.int p0), .val (.int p1), .val (.int p2), .val (.int p3), .val (.ref b_134), .unset, .unset, .unset, .unset, .unset] [(.int ((p3.toUInt32 >>> ((8 : Int32) &&& 31).toUInt32).toInt32)), (.int p1)])) _
    refine XS.sipush X134.here hx rfl (hb hby at_29) ?_
    show Steps p.tables e below (T134.setTop (mkF m 32 #[.val (.int p0), .val (.int p1), .val (.int p2), .val (.int p3), .val (.ref b_134), .unset, .unset, .unset, .unset, .unset] [(.int (255 : Int32)), (.int ((p3.toUInt32 >>> ((8 : Int32) &&& 31).toUInt32).toInt32)), (.int p1)])) _
    refine XS.iand X134.here hx rfl (hb hby at_32) rfl ?_
    show Steps p.tables e below (T134.setTop (mkF m 33 #[.val (.int p0), .val (.int p1), .val (.int p2), .val (.int p3), .val (.ref b_134), .unset, .unset, .unset, .unset, .unset] [(.int (((p3.toUInt32 >>> ((8 : Int32) &&& 31).toUInt32).toInt32) &&& (255 : Int32))), (.int p1)])) _
    refine st136.trans ?_
    show Steps p.tables e below (T136.setTop (mkF m 36 #[.val (.int p0), .val (.int p1), .val (.int p2), .val (.int p3), .val (.ref b_134), .unset, .unset, .unset, .unset, .unset] [(.ref b_136)])) _
    refine XS.astore X136.here hx rfl (hb hby at_36) rfl rfl (l' := #[.val (.int p0), .val (.int p1), .val (.int p2), .val (.int p3), .val (.ref b_134), .val (.ref b_136), .unset, .unset, .unset, .unset]) rfl ?_
    show Steps p.tables e below (T136.setTop (mkF m 38 #[.val (.int p0), .val (.int p1), .val (.int p2), .val (.int p3), .val (.ref b_134), .val (.ref b_136), .unset, .unset, .unset, .unset] [])) _
    refine XS.iloadN X136.here hx rfl (hb hby at_38) rfl ?_
    show Steps p.tables e below (T136.setTop (mkF m 39 #[.val (.int p0), .val (.int p1), .val (.int p2), .val (.int p3), .val (.ref b_134), .val (.ref b_136), .unset, .unset, .unset, .unset] [(.int p2)])) _
    refine XS.iloadN X136.here hx rfl (hb hby at_39) rfl ?_
    show Steps p.tables e below (T136.setTop (mkF m 40 #[.val (.int p0), .val (.int p1), .val (.int p2), .val (.int p3), .val (.ref b_134), .val (.ref b_136), .unset, .unset, .unset, .unset] [(.int p3), (.int p2)])) _
    refine XS.bipush X136.here hx rfl (hb hby at_40) ?_
    show Steps p.tables e below (T136.setTop (mkF m 42 #[.val (.int p0), .val (.int p1), .val (.int p2), .val (.int p3), .val (.ref b_134), .val (.ref b_136), .unset, .unset, .unset, .unset] [(.int (16 : Int32)), (.int p3), (.int p2)])) _
    refine XS.iushr X136.here hx rfl (hb hby at_42) rfl ?_
    show Steps p.tables e below (T136.setTop (mkF m 43 #[.val (.int p0), .val (.int p1), .val (.int p2), .val (.int p3), .val (.ref b_134), .val (.ref b_136), .unset, .unset, .unset, .unset] [(.int ((p3.toUInt32 >>> ((16 : Int32) &&& 31).toUInt32).toInt32)), (.int p2)])) _
    refine XS.sipush X136.here hx rfl (hb hby at_43) ?_
    show Steps p.tables e below (T136.setTop (mkF m 46 #[.val (.int p0), .val (.int p1), .val (.int p2), .val (.int p3), .val (.ref b_134), .val (.ref b_136), .unset, .unset, .unset, .unset] [(.int (255 : Int32)), (.int ((p3.toUInt32 >>> ((16 : Int32) &&& 31).toUInt32).toInt32)), (.int p2)])) _
    refine XS.iand X136.here hx rfl (hb hby at_46) rfl ?_
    show Steps p.tables e below (T136.setTop (mkF m 47 #[.val (.int p0), .val (.int p1), .val (.int p2), .val (.int p3), .val (.ref b_134), .val (.ref b_136), .unset, .unset, .unset, .unset] [(.int (((p3.toUInt32 >>> ((16 : Int32) &&& 31).toUInt32).toInt32) &&& (255 : Int32))), (.int p2)])) _
    refine st138.trans ?_
    show Steps p.tables e below (T138.setTop (mkF m 50 #[.val (.int p0), .val (.int p1), .val (.int p2), .val (.int p3), .val (.ref b_134), .val (.ref b_136), .unset, .unset, .unset, .unset] [(.ref b_138)])) _
    refine XS.astore X138.here hx rfl (hb hby at_50) rfl rfl (l' := #[.val (.int p0), .val (.int p1), .val (.int p2), .val (.int p3), .val (.ref b_134), .val (.ref b_136), .val (.ref b_138), .unset, .unset, .unset]) rfl ?_
    show Steps p.tables e below (T138.setTop (mkF m 52 #[.val (.int p0), .val (.int p1), .val (.int p2), .val (.int p3), .val (.ref b_134), .val (.ref b_136), .val (.ref b_138), .unset, .unset, .unset] [])) _
    refine XS.aload X138.here hx rfl (hb hby at_52) rfl rfl ?_
    show Steps p.tables e below (T138.setTop (mkF m 54 #[.val (.int p0), .val (.int p1), .val (.int p2), .val (.int p3), .val (.ref b_134), .val (.ref b_136), .val (.ref b_138), .unset, .unset, .unset] [(.ref b_134)])) _
    refine XS.aload X138.here hx rfl (hb hby at_54) rfl rfl ?_
    show Steps p.tables e below (T138.setTop (mkF m 56 #[.val (.int p0), .val (.int p1), .val (.int p2), .val (.int p3), .val (.ref b_134), .val (.ref b_136), .val (.ref b_138), .unset, .unset, .unset] [(.ref b_136), (.ref b_134)])) _
    refine XS.aload X138.here hx rfl (hb hby at_56) rfl rfl ?_
    show Steps p.tables e below (T138.setTop (mkF m 58 #[.val (.int p0), .val (.int p1), .val (.int p2), .val (.int p3), .val (.ref b_134), .val (.ref b_136), .val (.ref b_138), .unset, .unset, .unset] [(.ref b_138), (.ref b_136), (.ref b_134)])) _
    refine st140.trans ?_
    show Steps p.tables e below (T140.setTop (mkF m 61 #[.val (.int p0), .val (.int p1), .val (.int p2), .val (.int p3), .val (.ref b_134), .val (.ref b_136), .val (.ref b_138), .unset, .unset, .unset] [(.ref b_140)])) _
    refine XS.astore X140.here hx rfl (hb hby at_61) rfl rfl (l' := #[.val (.int p0), .val (.int p1), .val (.int p2), .val (.int p3), .val (.ref b_134), .val (.ref b_136), .val (.ref b_138), .val (.ref b_140), .unset, .unset]) rfl ?_
    show Steps p.tables e below (T140.setTop (mkF m 63 #[.val (.int p0), .val (.int p1), .val (.int p2), .val (.int p3), .val (.ref b_134), .val (.ref b_136), .val (.ref b_138), .val (.ref b_140), .unset, .unset] [])) _
    refine XS.aload X140.here hx rfl (hb hby at_63) rfl rfl ?_
    show Steps p.tables e below (T140.setTop (mkF m 65 #[.val (.int p0), .val (.int p1), .val (.int p2), .val (.int p3), .val (.ref b_134), .val (.ref b_136), .val (.ref b_138), .val (.ref b_140), .unset, .unset] [(.ref b_140)])) _
    refine XS.ifnonnullYes X140.here hx rfl (pc0 := 65) (pc' := 70) rfl (hb hby at_65) rfl (by decide) (by decide) ?_
    show Steps p.tables e below (T140.setTop (mkF m 70 #[.val (.int p0), .val (.int p1), .val (.int p2), .val (.int p3), .val (.ref b_134), .val (.ref b_136), .val (.ref b_138), .val (.ref b_140), .unset, .unset] [])) _
    refine XS.aload X140.here hx rfl (hb hby at_70) rfl rfl ?_
    show Steps p.tables e below (T140.setTop (mkF m 72 #[.val (.int p0), .val (.int p1), .val (.int p2), .val (.int p3), .val (.ref b_134), .val (.ref b_136), .val (.ref b_138), .val (.ref b_140), .unset, .unset] [(.ref b_140)])) _
    refine st143.trans ?_
    show Steps p.tables e below (T143.setTop (mkF m 75 #[.val (.int p0), .val (.int p1), .val (.int p2), .val (.int p3), .val (.ref b_134), .val (.ref b_136), .val (.ref b_138), .val (.ref b_140), .unset, .unset] [(.ref b_136)])) _
    refine XS.astore X143.here hx rfl (hb hby at_75) rfl rfl (l' := #[.val (.int p0), .val (.int p1), .val (.int p2), .val (.int p3), .val (.ref b_134), .val (.ref b_136), .val (.ref b_138), .val (.ref b_140), .val (.ref b_136), .unset]) rfl ?_
    show Steps p.tables e below (T143.setTop (mkF m 77 #[.val (.int p0), .val (.int p1), .val (.int p2), .val (.int p3), .val (.ref b_134), .val (.ref b_136), .val (.ref b_138), .val (.ref b_140), .val (.ref b_136), .unset] [])) _
    refine XS.aload X143.here hx rfl (hb hby at_77) rfl rfl ?_
    show Steps p.tables e below (T143.setTop (mkF m 79 #[.val (.int p0), .val (.int p1), .val (.int p2), .val (.int p3), .val (.ref b_134), .val (.ref b_136), .val (.ref b_138), .val (.ref b_140), .val (.ref b_136), .unset] [(.ref b_136)])) _
    refine XS.ifnonnullYes X143.here hx rfl (pc0 := 79) (pc' := 95) rfl (hb hby at_79) rfl (by decide) (by decide) ?_
    show Steps p.tables e below (T143.setTop (mkF m 95 #[.val (.int p0), .val (.int p1), .val (.int p2), .val (.int p3), .val (.ref b_134), .val (.ref b_136), .val (.ref b_138), .val (.ref b_140), .val (.ref b_136), .unset] [])) _
    refine XS.aload X143.here hx rfl (hb hby at_95) rfl rfl ?_
    show Steps p.tables e below (T143.setTop (mkF m 97 #[.val (.int p0), .val (.int p1), .val (.int p2), .val (.int p3), .val (.ref b_134), .val (.ref b_136), .val (.ref b_138), .val (.ref b_140), .val (.ref b_136), .unset] [(.ref b_136)])) _
    refine XS.aload X143.here hx rfl (hb hby at_97) rfl rfl ?_
    show Steps p.tables e below (T143.setTop (mkF m 99 #[.val (.int p0), .val (.int p1), .val (.int p2), .val (.int p3), .val (.ref b_134), .val (.ref b_136), .val (.ref b_138), .val (.ref b_140), .val (.ref b_136), .unset] [(.ref b_136), (.ref b_136)])) _
    refine st144.trans ?_
    show Steps p.tables e below (T144.setTop (mkF m 102 #[.val (.int p0), .val (.int p1), .val (.int p2), .val (.int p3), .val (.ref b_134), .val (.ref b_136), .val (.ref b_138), .val (.ref b_140), .val (.ref b_136), .unset] [(.int (1 : Int32))])) _
    refine XS.istore X144.here hx rfl (hb hby at_102) rfl (l' := #[.val (.int p0), .val (.int p1), .val (.int p2), .val (.int p3), .val (.ref b_134), .val (.ref b_136), .val (.ref b_138), .val (.ref b_140), .val (.ref b_136), .val (.int (1 : Int32))]) rfl ?_
    show Steps p.tables e below (T144.setTop (mkF m 104 #[.val (.int p0), .val (.int p1), .val (.int p2), .val (.int p3), .val (.ref b_134), .val (.ref b_136), .val (.ref b_138), .val (.ref b_140), .val (.ref b_136), .val (.int (1 : Int32))] [])) _
    refine XS.aload X144.here hx rfl (hb hby at_104) rfl rfl ?_
    show Steps p.tables e below (T144.setTop (mkF m 106 #[.val (.int p0), .val (.int p1), .val (.int p2), .val (.int p3), .val (.ref b_134), .val (.ref b_136), .val (.ref b_138), .val (.ref b_140), .val (.ref b_136), .val (.int (1 : Int32))] [(.ref b_134)])) _
    refine XS.aload X144.here hx rfl (hb hby at_106) rfl rfl ?_
    show Steps p.tables e below (T144.setTop (mkF m 108 #[.val (.int p0), .val (.int p1), .val (.int p2), .val (.int p3), .val (.ref b_134), .val (.ref b_136), .val (.ref b_138), .val (.ref b_140), .val (.ref b_136), .val (.int (1 : Int32))] [(.ref b_140), (.ref b_134)])) _
    refine st146.trans ?_
    show Steps p.tables e below (T146.setTop (mkF m 111 #[.val (.int p0), .val (.int p1), .val (.int p2), .val (.int p3), .val (.ref b_134), .val (.ref b_136), .val (.ref b_138), .val (.ref b_140), .val (.ref b_136), .val (.int (1 : Int32))] [(.ref b_134), (.ref b_134)])) _
    refine st147.trans ?_
    show Steps p.tables e below (T147.setTop (mkF m 114 #[.val (.int p0), .val (.int p1), .val (.int p2), .val (.int p3), .val (.ref b_134), .val (.ref b_136), .val (.ref b_138), .val (.ref b_140), .val (.ref b_136), .val (.int (1 : Int32))] [(.int (1 : Int32))])) _
    refine XS.ifNo X147.here hx rfl (hb hby at_114) rfl ((if0 _ _).trans (feq (by decide : ¬ ((1 : Int32) = (0 : Int32)))).1) ?_
    show Steps p.tables e below (T147.setTop (mkF m 117 #[.val (.int p0), .val (.int p1), .val (.int p2), .val (.int p3), .val (.ref b_134), .val (.ref b_136), .val (.ref b_138), .val (.ref b_140), .val (.ref b_136), .val (.int (1 : Int32))] [])) _
    refine XS.iload X147.here hx rfl (hb hby at_117) rfl ?_
    show Steps p.tables e below (T147.setTop (mkF m 119 #[.val (.int p0), .val (.int p1), .val (.int p2), .val (.int p3), .val (.ref b_134), .val (.ref b_136), .val (.ref b_138), .val (.ref b_140), .val (.ref b_136), .val (.int (1 : Int32))] [(.int (1 : Int32))])) _
    refine XS.ifNo X147.here hx rfl (hb hby at_119) rfl ((if0 _ _).trans (feq (by decide : ¬ ((1 : Int32) = (0 : Int32)))).1) ?_
    show Steps p.tables e below (T147.setTop (mkF m 122 #[.val (.int p0), .val (.int p1), .val (.int p2), .val (.int p3), .val (.ref b_134), .val (.ref b_136), .val (.ref b_138), .val (.ref b_140), .val (.ref b_136), .val (.int (1 : Int32))] [])) _
    refine XS.aload X147.here hx rfl (hb hby at_122) rfl rfl ?_
    show Steps p.tables e below (T147.setTop (mkF m 124 #[.val (.int p0), .val (.int p1), .val (.int p2), .val (.int p3), .val (.ref b_134), .val (.ref b_136), .val (.ref b_138), .val (.ref b_140), .val (.ref b_136), .val (.int (1 : Int32))] [(.ref b_140)])) _
    refine st149.trans ?_
    show Steps p.tables e below (T149.setTop (mkF m 127 #[.val (.int p0), .val (.int p1), .val (.int p2), .val (.int p3), .val (.ref b_134), .val (.ref b_136), .val (.ref b_138), .val (.ref b_140), .val (.ref b_136), .val (.int (1 : Int32))] [(.int (1 : Int32))])) _
    refine XS.ifNo X149.here hx rfl (hb hby at_127) rfl ((if0 _ _).trans (feq (by decide : ¬ ((1 : Int32) = (0 : Int32)))).1) ?_
    show Steps p.tables e below (T149.setTop (mkF m 130 #[.val (.int p0), .val (.int p1), .val (.int p2), .val (.int p3), .val (.ref b_134), .val (.ref b_136), .val (.ref b_138), .val (.ref b_140), .val (.ref b_136), .val (.int (1 : Int32))] [])) _
    refine XS.aload X149.here hx rfl (hb hby at_130) rfl rfl ?_
    show Steps p.tables e below (T149.setTop (mkF m 132 #[.val (.int p0), .val (.int p1), .val (.int p2), .val (.int p3), .val (.ref b_134), .val (.ref b_136), .val (.ref b_138), .val (.ref b_140), .val (.ref b_136), .val (.int (1 : Int32))] [(.ref b_138)])) _
    refine XS.aload X149.here hx rfl (hb hby at_132) rfl rfl ?_
    show Steps p.tables e below (T149.setTop (mkF m 134 #[.val (.int p0), .val (.int p1), .val (.int p2), .val (.int p3), .val (.ref b_134), .val (.ref b_136), .val (.ref b_138), .val (.ref b_140), .val (.ref b_136), .val (.int (1 : Int32))] [(.ref b_140), (.ref b_138)])) _
    refine st150.trans ?_
    show Steps p.tables e below (T150.setTop (mkF m 137 #[.val (.int p0), .val (.int p1), .val (.int p2), .val (.int p3), .val (.ref b_134), .val (.ref b_136), .val (.ref b_138), .val (.ref b_140), .val (.ref b_136), .val (.int (1 : Int32))] [(.ref b_138), (.ref b_138)])) _
    refine st151.trans ?_
    show Steps p.tables e below (T151.setTop (mkF m 140 #[.val (.int p0), .val (.int p1), .val (.int p2), .val (.int p3), .val (.ref b_134), .val (.ref b_136), .val (.ref b_138), .val (.ref b_140), .val (.ref b_136), .val (.int (1 : Int32))] [(.int (1 : Int32))])) _
    refine XS.ifNo X151.here hx rfl (hb hby at_140) rfl ((if0 _ _).trans (feq (by decide : ¬ ((1 : Int32) = (0 : Int32)))).1) ?_
    show Steps p.tables e below (T151.setTop (mkF m 143 #[.val (.int p0), .val (.int p1), .val (.int p2), .val (.int p3), .val (.ref b_134), .val (.ref b_136), .val (.ref b_138), .val (.ref b_140), .val (.ref b_136), .val (.int (1 : Int32))] [])) _
    refine XS.aload X151.here hx rfl (hb hby at_143) rfl rfl ?_
    show Steps p.tables e below (T151.setTop (mkF m 145 #[.val (.int p0), .val (.int p1), .val (.int p2), .val (.int p3), .val (.ref b_134), .val (.ref b_136), .val (.ref b_138), .val (.ref b_140), .val (.ref b_136), .val (.int (1 : Int32))] [(.ref b_140)])) _
    refine st153.trans ?_
    show Steps p.tables e below (T153.setTop (mkF m 148 #[.val (.int p0), .val (.int p1), .val (.int p2), .val (.int p3), .val (.ref b_134), .val (.ref b_136), .val (.ref b_138), .val (.ref b_140), .val (.ref b_136), .val (.int (1 : Int32))] [.null])) _
    refine XS.ifnonnullNo X153.here hx rfl (hb hby at_148) rfl ?_
    show Steps p.tables e below (T153.setTop (mkF m 151 #[.val (.int p0), .val (.int p1), .val (.int p2), .val (.int p3), .val (.ref b_134), .val (.ref b_136), .val (.ref b_138), .val (.ref b_140), .val (.ref b_136), .val (.int (1 : Int32))] [])) _
    refine XS.iconst X153.here hx rfl (hb hby at_151) ?_
    show Steps p.tables e below (T153.setTop (mkF m 152 #[.val (.int p0), .val (.int p1), .val (.int p2), .val (.int p3), .val (.ref b_134), .val (.ref b_136), .val (.ref b_138), .val (.ref b_140), .val (.ref b_136), .val (.int (1 : Int32))] [(.int (1 : Int32))])) _
    refine XS.goto X153.here hx rfl (pc0 := 152) (pc' := 156) rfl (hb hby at_152) (by decide) (by decide) ?_
    show Steps p.tables e below (T153.setTop (mkF m 156 #[.val (.int p0), .val (.int p1), .val (.int p2), .val (.int p3), .val (.ref b_134), .val (.ref b_136), .val (.ref b_138), .val (.ref b_140), .val (.ref b_136), .val (.int (1 : Int32))] [(.int (1 : Int32))])) _
    exact retN X153 hx (t := .boolean) Bd.returns (by simp) (hb hby at_156) hr
  · show Q0 Z G1 p0 p1 p2 p3 h0 n0 _ T153.heap _
    rw [eq153]
    exact ⟨rfl, N153, K0_142⟩
  · show CHr Z own_EL s.vm s.heap T153.vm T153.heap
    rw [hh, eq153]
    exact hFin
set_option maxRecDepth 65536 in
theorem rm0 (l : Launch) (Z : State) (a0 : Array Value) (G1 : Int32) (hG : Glob Z a0 G1) (ws : List Jvm.Cond) (p0 : Int32) (p1 : Int32) (p2 : Int32) (p3 : Int32) (h0 : Heap) (n0 : Nat) (Z0 : n0 ≤ h0.size) (X00 : Old Z n0 h0) :
    MetFree l x (head1 (Jvm.Cond.code x code maxLocals ret :: ws) room_1) (fun a U => a = #[(.int p0), (.int p1), (.int p2), (.int p3)] ∧ Z.Warmed39 U.vm ∧ U.heap = h0 ∧ CHv Z own_EL U.vm h0) (fun _ _ _ _ _ => True) (fun _ U o U' => ∃ v L, o = .returned v ∧ Q0 Z G1 p0 p1 p2 p3 h0 n0 v U'.heap L ∧ CHr Z own_EL U.vm U.heap U'.vm U'.heap ∧ ReturnedEndW U o U' L room_1.cells room_1.slots) := by
  by_cases hq0 : (((p3.toUInt32 >>> ((24 : Int32) &&& 31).toUInt32).toInt32) &&& (1 : Int32)) = (0 : Int32)
  · exact rm0_r l Z a0 G1 hG ws p0 p1 p2 p3 h0 n0 Z0 X00 hq0
  · exact rm0_n l Z a0 G1 hG ws p0 p1 p2 p3 h0 n0 Z0 X00 hq0
set_option maxRecDepth 65536 in
set_option maxHeartbeats 40000000 in
theorem comes_1 {Post : Tables → Env → Array Value → State → Outcome → State → Prop} (hpost : ∀ tb e args s v u, (limb_1_1.after args s (.returned v) u = true ∧ limb_1_2.after args s (.returned v) u = true ∧ True) → ReturnedEndW s (.returned v) u (Jvm.fieldLocs frame_1_writes args s ++ Jvm.arrayLocs frame_1_arrays args s ++ Jvm.staticLocs frame_1_statics s) 40 3264 → Post tb e args s (.returned v) u) :
    ArmFor flags0 classFile x code maxLocals ret World_1 tables_1 room_1 Calls_1 rest_1 Pre_1 Post := by
  intro l hfl _ _ p e ha hc hk s m args below hf hA hF happ hP
  obtain ⟨hcalls, hrest, hpre⟩ := hP
  obtain ⟨-, -, -, hnamed, -, -, -, hat⟩ := (Spec.applies_iff hf).mp happ
  obtain ⟨hg, hn⟩ := and_e (Cond.before_iff.mp (show (Jvm.Cond.and given_1 narrow_1).before args s = true from hpre))
  obtain ⟨gc, gr0⟩ := and_e hg
  obtain ⟨ga0, gr1⟩ := and_e gr0
  obtain ⟨ga1, gr2⟩ := and_e gr1
  obtain ⟨ga2, gr3⟩ := and_e gr2
  obtain ⟨w0, w1, w2, w3, rfl⟩ : ∃ w0 w1 w2 w3 : Value, args = #[w0, w1, w2, w3] := by
    have hs : args.size = 4 := by simpa [Cond.value, given_1] using gc
    obtain ⟨L⟩ := args
    match L, hs with
    | [w0, w1, w2, w3], _ => exact ⟨w0, w1, w2, w3, rfl⟩
  have hw := fun d (hd : d ∈ tables_1) => atoms_spec (ws := Jvm.Cond.code x code maxLocals ret :: tables_1) hat d (List.mem_cons_of_mem _ hd)
  have hfit : Fit s := fun {y c} hc i hi => by
    obtain ⟨ha, rfl⟩ := Array.getElem?_eq_some_iff.mp hc
    have q := List.all_eq_true.mp ((Array.all_eq_true_iff_forall_mem.mp hF) _ (Array.getElem_mem ha)) i (List.mem_range.mpr hi)
    simpa [Array.getElem?_eq_getElem hi] using q
  obtain ⟨hsets, hown0⟩ := atoms_of _ (rest_1_c_eq ▸ (show rest_1_c.before _ s = true from hrest))
  obtain ⟨i0, ei0⟩ := is_v ga0
  obtain rfl : w0 = (.int i0) := Option.some.inj ei0
  obtain ⟨i1, ei1⟩ := is_v ga1
  obtain rfl : w1 = (.int i1) := Option.some.inj ei1
  obtain ⟨i2, ei2⟩ := is_v ga2
  obtain rfl : w2 = (.int i2) := Option.some.inj ei2
  obtain ⟨i3, ei3⟩ := is_v gr3
  obtain rfl : w3 = (.int i3) := Option.some.inj ei3
  have W : ∀ (i : Nat) {d : Jvm.Cond}, tables_1[i]? = some d → d.before _ s = true := fun i d h => hw d (List.mem_of_getElem? h)
  obtain ⟨G, eG⟩ := is_v (Cond.before_iff.mp (hsets _ (List.mem_of_getElem? (i := 1) rfl)))
  have nG := not_v (Cond.before_iff.mp (hsets _ (List.mem_of_getElem? (i := 2) rfl)))
  have SG : Sta s s.heap "java/lang/String" "COMPACT_STRINGS" "Z" (.int G) := Sta.start eG (Or.inl (hsets _ (List.mem_of_getElem? (i := 0) rfl)))
  have cG : ¬ (G = (0 : Int32)) := gotF (Cond.eq_ints eG (Term.int_eval (0))) nG
  have own_held : ∀ p ∈ own_EL, Jvm.Lit.constHeld s p.1 p.2 := fun p hp => hcalls.1 p ((by decide : ∀ p ∈ own_EL, p ∈ consts_1) p hp)
  have hG : Glob s _ G := ⟨hw, SG, cG⟩
  have hCH : CHv s own_EL s.vm s.heap := CHv.start (own_ew hw) own_held (hsets _ (List.mem_of_getElem? (i := 2) rfl)) (W 19 rfl) (W 15 rfl)
  obtain ⟨n, o, h1, h2, h3, _, L, rfl, ⟨rfl, N, -⟩, -, hq⟩ := rm0 l s _ G hG tables_1 i0 i1 i2 i3 s.heap s.heap.size (Nat.le_refl _) (Old.start s) p e ha hc hk s m _ below hf ((Spec.applies_iff_loose hf).mp happ).1 ⟨rfl, State.Warmed39.refl s, rfl, hCH⟩ trivial
  refine ⟨n, _, h1, h2, h3, hpost _ _ _ _ _ _ ⟨Cond.after_iff.mpr rfl, Cond.after_iff.mpr (eq_i res_at (Term.int_eval (1)) rfl), trivial⟩ ⟨hq.1, hq.2.1, hq.2.2.1, (hq.2.2.2.sift fun y hy => Or.inr (N y hy)).mono (by decide) (by decide)⟩⟩
theorem main_1_1 : Claimed_1_1 := comes_1 fun _ _ _ _ _ _ h hF => ⟨h.1, hF⟩
theorem main_1_2 : Claimed_1_2 := comes_1 fun _ _ _ _ _ _ h hF => ⟨h.2.1, hF⟩
end Jvm.Pilot.@@N@@
namespace Jvm.Pilot.@@N@@
open Jvm Jvm.ClassFile Sem Op Lib Jvm.Free Jvm.Stand Jvm.Pilot.@@N@@.Jvm.D
/-! MADE BY PROGRAM (witnessworld.py) out of the Statement's table words and the real class files: 21 classes; the members and pool entries that the words name. The judged class is class 1, her method 2. -/
namespace start1
open Jvm.ClassFile
def u (s : String) : CpInfo := .utf8 (stringToUtf16 s)
/-- a pool by its gaps: so many unusable entries, then the entry; so many at the end -/
def gap : Nat → List CpInfo → List CpInfo
  | 0, r => r
  | n + 1, r => .unusable :: gap n r
def poolList (es : List (Nat × CpInfo)) (last : Nat) : List CpInfo := es.foldr (fun e r => gap e.1 (e.2 :: r)) (gap last [])
def pool (es : List (Nat × CpInfo)) (last : Nat) : Array CpInfo := ⟨poolList es last⟩
def fileOf (pool : Array CpInfo) (this : Nat) (attrs : Array Attribute := #[]) (ms : Array MethodInfo := #[]) (fl : Nat := 33) (sup : Nat := 0) (ifs : Array Nat := #[]) (fds : Array FieldInfo := #[]) : ClassFile where
  minorVersion := 0
  majorVersion := 65
  constantPool := pool
  accessFlags := fl
  thisClass := this
  superClass := sup
  interfaces := ifs
  fields := fds
  methods := ms
  attributes := attrs
def plain (name : String) (sup : Option ClassId) : Class where
  name := name
  kind := .ordinary
  loader := none
  accessFlags := 33
  super := sup
  interfaces := #[]
  cf := none
  fields := #[]
  methods := #[]
  instanceTypes := #[]
  staticTypes := #[]
  resolved := #[]
  callSites := []
  init := .initialized
  statics := none
  mirror := none

def pool0 : Array CpInfo := pool [(5, u "<init>"), (0, u "()V"), (1, .class_ 10), (1, u "java/lang/Object")] 113

def k0c0 : Code := { maxStack := 0, maxLocals := 1, code := object_method_1_code, exceptionTable := #[], attributes := #[] }
def k0m0 : Method := { name := "<init>", desc := "()V", sig := { parameters := [], returnType := none }, accessFlags := 1, code := some k0c0 }
/-- java/lang/Object -/
def k0 : Class := { plain "java/lang/Object" none with
  accessFlags := 33
  interfaces := #[]
  cf := some (fileOf pool0 8 #[] #[{ accessFlags := 1, nameIndex := 5, descriptorIndex := 6, attributes := #[] }] 33 0 #[] #[])
  fields := #[]
  methods := #[k0m0]
  instanceTypes := #[]
  staticTypes := #[]
  resolved := Array.replicate 124 none
  statics := none }

def pool1 : Array CpInfo := pool [(2, .class_ 4), (1, u "java/lang/Object"), (0, u "<init>"), (0, u "()V"), (0, .integer 2147483647), (0, .class_ 9), (0, u "java/lang/String"), (0, .methodref 8 11), (0, .nameAndType 5 12), (0, u "([C)V"), (0, .methodref 8 14), (0, .nameAndType 15 16), (0, u "valueOf"), (0, u "(C)Ljava/lang/String;"), (0, .methodref 18 19), (0, .class_ 20), (0, .nameAndType 21 22), (0, u "com/example/larkbridge/larkbridge/mcp/McpResourceContentsTextPinLaw"), (0, u "draw"), (0, u "(II)Ljava/lang/String;"), (0, .methodref 24 25), (0, .class_ 26), (0, .nameAndType 27 28), (0, u "com/example/larkbridge/larkbridge/mcp/McpResourceContents"), (0, u "text"), (0, u "(Ljava/lang/String;Ljava/lang/String;Ljava/lang/String;)Lcom/example/larkbridge/larkbridge/mcp/McpResourceContents;"), (0, .methodref 24 30), (0, .nameAndType 31 32), (0, u "mimeType"), (0, u "()Ljava/lang/String;"), (0, .methodref 8 34), (0, .nameAndType 35 36), (0, u "equals"), (0, u "(Ljava/lang/Object;)Z"), (0, .methodref 24 38), (0, .nameAndType 39 32), (0, u "uri"), (0, .methodref 24 41), (0, .nameAndType 42 43), (0, u "isText"), (0, u "()Z"), (0, .methodref 24 45), (0, .nameAndType 27 32), (0, .methodref 24 47), (0, .nameAndType 48 49), (0, u "bytes"), (0, u "()[B"), (3, u "law"), (0, u "(IIII)Z")] 2

def k1m0 : Method := { name := "<init>", desc := "()V", sig := { parameters := [], returnType := none }, accessFlags := 1, code := none }
def k1c1 : Code := { maxStack := 3, maxLocals := 6, code := method_2_code, exceptionTable := #[], attributes := #[] }
def k1m1 : Method := { name := "draw", desc := "(II)Ljava/lang/String;", sig := { parameters := [.int, .int], returnType := some (.object "java/lang/String") }, accessFlags := 10, code := some k1c1 }
def k1c2 : Code := { maxStack := 3, maxLocals := 10, code := code, exceptionTable := #[], attributes := #[] }
def k1m2 : Method := { name := "law", desc := "(IIII)Z", sig := { parameters := [.int, .int, .int, .int], returnType := some .boolean }, accessFlags := 9, code := some k1c2 }
/-- com/example/larkbridge/larkbridge/mcp/McpResourceContentsTextPinLaw -/
def k1 : Class := { plain "com/example/larkbridge/larkbridge/mcp/McpResourceContentsTextPinLaw" (some 0) with
  accessFlags := 49
  interfaces := #[]
  cf := some (fileOf pool1 18 #[] #[{ accessFlags := 1, nameIndex := 5, descriptorIndex := 6, attributes := #[] }, { accessFlags := 10, nameIndex := 21, descriptorIndex := 22, attributes := #[] }, { accessFlags := 9, nameIndex := 53, descriptorIndex := 54, attributes := #[] }] 49 2 #[] #[])
  fields := #[]
  methods := #[k1m0, k1m1, k1m2]
  instanceTypes := #[]
  staticTypes := #[]
  resolved := Array.replicate 57 none
  statics := none }

def pool2 : Array CpInfo := pool [(1, .class_ 2), (0, u "java/io/Serializable"), (0, .class_ 4), (0, u "java/lang/Object")] 2

/-- java/io/Serializable -/
def k2 : Class := { plain "java/io/Serializable" (some 0) with
  accessFlags := 1537
  interfaces := #[]
  cf := some (fileOf pool2 1 #[] #[] 1537 3 #[] #[])
  fields := #[]
  methods := #[]
  instanceTypes := #[]
  staticTypes := #[]
  resolved := Array.replicate 7 none
  statics := none }

def pool3 : Array CpInfo := pool [(1, .class_ 2), (0, u "java/lang/Comparable"), (0, .class_ 4), (0, u "java/lang/Object")] 7

/-- java/lang/Comparable -/
def k3 : Class := { plain "java/lang/Comparable" (some 0) with
  accessFlags := 1537
  interfaces := #[]
  cf := some (fileOf pool3 1 #[] #[] 1537 3 #[] #[])
  fields := #[]
  methods := #[]
  instanceTypes := #[]
  staticTypes := #[]
  resolved := Array.replicate 12 none
  statics := none }

def pool4 : Array CpInfo := pool [(2, .class_ 4), (1, u "java/lang/CharSequence"), (42, .class_ 48), (0, u "java/lang/CharSequence$1CodePointIterator"), (10, .class_ 60), (0, u "java/lang/CharSequence$1CharIterator"), (5, .class_ 67), (0, u "java/lang/Object")] 63

/-- java/lang/CharSequence -/
def k4 : Class := { plain "java/lang/CharSequence" (some 0) with
  accessFlags := 1537
  interfaces := #[]
  cf := some (fileOf pool4 2 #[.nestMembers #[47, 59]] #[] 1537 66 #[] #[])
  fields := #[]
  methods := #[]
  instanceTypes := #[]
  staticTypes := #[]
  resolved := Array.replicate 131 none
  statics := none }

def pool5 : Array CpInfo := pool [(1, .class_ 2), (0, u "java/lang/constant/Constable"), (0, .class_ 4), (0, u "java/lang/Object")] 6

/-- java/lang/constant/Constable -/
def k5 : Class := { plain "java/lang/constant/Constable" (some 0) with
  accessFlags := 1537
  interfaces := #[]
  cf := some (fileOf pool5 1 #[] #[] 1537 3 #[] #[])
  fields := #[]
  methods := #[]
  instanceTypes := #[]
  staticTypes := #[]
  resolved := Array.replicate 11 none
  statics := none }

def pool6 : Array CpInfo := pool [(1, .class_ 2), (0, u "java/lang/constant/ConstantDesc"), (0, .class_ 4), (0, u "java/lang/Object")] 32

/-- java/lang/constant/ConstantDesc -/
def k6 : Class := { plain "java/lang/constant/ConstantDesc" (some 0) with
  accessFlags := 1537
  interfaces := #[]
  cf := some (fileOf pool6 1 #[] #[] 1537 3 #[] #[])
  fields := #[]
  methods := #[]
  instanceTypes := #[]
  staticTypes := #[]
  resolved := Array.replicate 37 none
  statics := none }

def pool7 : Array CpInfo := pool [(1, .methodref 2 3), (0, .class_ 4), (0, .nameAndType 5 6), (0, u "java/lang/Object"), (0, u "<init>"), (0, u "()V"), (0, .string 8), (0, u ""), (0, .fieldref 10 11), (0, .class_ 12), (0, .nameAndType 13 14), (0, u "java/lang/String"), (0, u "value"), (0, u "[B"), (0, .fieldref 10 16), (0, .nameAndType 17 18), (0, u "coder"), (0, u "B"), (2, u "hash"), (0, u "I"), (2, u "hashIsZero"), (0, u "Z"), (0, .methodref 10 28), (0, .nameAndType 5 29), (0, u "([CIILjava/lang/Void;)V"), (8, .fieldref 10 39), (0, .nameAndType 40 26), (0, u "COMPACT_STRINGS"), (1, .class_ 44), (1, u "java/lang/StringUTF16"), (0, u "compress"), (1, .methodref 42 48), (0, .nameAndType 49 50), (0, u "coderFromArrayLen"), (0, u "([BI)B"), (2, u "toBytes"), (53, .class_ 109), (1, u "java/lang/StringLatin1"), (67, .methodref 42 178), (0, .nameAndType 45 179), (0, u "([CII)[B"), (29, .methodref 10 210), (0, .nameAndType 5 211), (0, u "([BB)V"), (157, u "(C)Z"), (173, u "equals"), (29, u "(Ljava/lang/Object;)Z"), (1, .class_ 576), (0, u "java/lang/CharSequence"), (22, u "CASE_INSENSITIVE_ORDER"), (0, u "Ljava/util/Comparator;"), (181, u "valueOf"), (0, u "(C)Ljava/lang/String;"), (226, u "([C)V"), (4, .methodref 107 1016), (0, .nameAndType 1017 369), (0, u "canEncode"), (0, .methodref 107 1019), (0, .nameAndType 53 1020), (0, u "(C)[B"), (80, u "serialPersistentFields"), (0, u "[Ljava/io/ObjectStreamField;"), (0, .class_ 1104), (0, u "java/lang/String$CaseInsensitiveComparator"), (1, .class_ 1107), (0, u "java/io/Serializable"), (0, .class_ 1109), (0, u "java/lang/Comparable"), (0, .class_ 1111), (0, u "java/lang/constant/Constable"), (0, .class_ 1113), (0, u "java/lang/constant/ConstantDesc"), (2, u "serialVersionUID"), (0, u "J"), (3, u "REPL"), (0, u "C"), (2, u "LATIN1"), (1, u "UTF16")] 323

def k7m0 : Method := { name := "<init>", desc := "()V", sig := { parameters := [], returnType := none }, accessFlags := 1, code := none }
def k7c1 : Code := { maxStack := 5, maxLocals := 2, code := jdk_42_method_3_code, exceptionTable := #[], attributes := #[] }
def k7m1 : Method := { name := "<init>", desc := "([C)V", sig := { parameters := [(.array .char)], returnType := none }, accessFlags := 1, code := some k7c1 }
def k7c2 : Code := { maxStack := 2, maxLocals := 3, code := jdk_42_method_66_code, exceptionTable := #[], attributes := #[] }
def k7m2 : Method := { name := "equals", desc := "(Ljava/lang/Object;)Z", sig := { parameters := [(.object "java/lang/Object")], returnType := some .boolean }, accessFlags := 1, code := some k7c2 }
def k7c3 : Code := { maxStack := 4, maxLocals := 1, code := jdk_42_method_139_code, exceptionTable := #[], attributes := #[] }
def k7m3 : Method := { name := "valueOf", desc := "(C)Ljava/lang/String;", sig := { parameters := [.char], returnType := some (.object "java/lang/String") }, accessFlags := 9, code := some k7c3 }
def k7c4 : Code := { maxStack := 4, maxLocals := 6, code := jdk_42_method_149_code, exceptionTable := #[], attributes := #[] }
def k7m4 : Method := { name := "<init>", desc := "([CIILjava/lang/Void;)V", sig := { parameters := [(.array .char), .int, .int, (.object "java/lang/Void")], returnType := none }, accessFlags := 2, code := some k7c4 }
def k7c5 : Code := { maxStack := 2, maxLocals := 3, code := jdk_42_method_151_code, exceptionTable := #[], attributes := #[] }
def k7m5 : Method := { name := "<init>", desc := "([BB)V", sig := { parameters := [(.array .byte), .byte], returnType := none }, accessFlags := 0, code := some k7c5 }
/-- java/lang/String -/
def k7 : Class := { plain "java/lang/String" (some 0) with
  accessFlags := 49
  interfaces := #[2, 3, 4, 5, 6]
  cf := some (fileOf pool7 10 #[.nestMembers #[1103]] #[{ accessFlags := 1, nameIndex := 5, descriptorIndex := 6, attributes := #[] }, { accessFlags := 1, nameIndex := 5, descriptorIndex := 1010, attributes := #[] }, { accessFlags := 1, nameIndex := 543, descriptorIndex := 573, attributes := #[] }, { accessFlags := 9, nameIndex := 782, descriptorIndex := 783, attributes := #[] }, { accessFlags := 2, nameIndex := 5, descriptorIndex := 29, attributes := #[] }, { accessFlags := 0, nameIndex := 5, descriptorIndex := 211, attributes := #[] }] 49 2 #[1106, 1108, 575, 1110, 1112] #[{ accessFlags := 18, nameIndex := 13, descriptorIndex := 14, attributes := #[] }, { accessFlags := 18, nameIndex := 17, descriptorIndex := 18, attributes := #[] }, { accessFlags := 2, nameIndex := 21, descriptorIndex := 22, attributes := #[] }, { accessFlags := 2, nameIndex := 25, descriptorIndex := 26, attributes := #[] }, { accessFlags := 26, nameIndex := 1116, descriptorIndex := 1117, attributes := #[] }, { accessFlags := 24, nameIndex := 40, descriptorIndex := 26, attributes := #[] }, { accessFlags := 26, nameIndex := 1101, descriptorIndex := 1102, attributes := #[] }, { accessFlags := 26, nameIndex := 1121, descriptorIndex := 1122, attributes := #[] }, { accessFlags := 25, nameIndex := 599, descriptorIndex := 600, attributes := #[] }, { accessFlags := 24, nameIndex := 1125, descriptorIndex := 18, attributes := #[] }, { accessFlags := 24, nameIndex := 1127, descriptorIndex := 18, attributes := #[] }])
  fields := #[{ name := "value", type := (.array .byte), accessFlags := 18, slot := 0, constantValue := 0 }, { name := "coder", type := .byte, accessFlags := 18, slot := 1, constantValue := 0 }, { name := "hash", type := .int, accessFlags := 2, slot := 2, constantValue := 0 }, { name := "hashIsZero", type := .boolean, accessFlags := 2, slot := 3, constantValue := 0 }, { name := "serialVersionUID", type := .long, accessFlags := 26, slot := 0, constantValue := 0 }, { name := "COMPACT_STRINGS", type := .boolean, accessFlags := 24, slot := 1, constantValue := 0 }, { name := "serialPersistentFields", type := (.array (.object "java/io/ObjectStreamField")), accessFlags := 26, slot := 2, constantValue := 0 }, { name := "REPL", type := .char, accessFlags := 26, slot := 3, constantValue := 0 }, { name := "CASE_INSENSITIVE_ORDER", type := (.object "java/util/Comparator"), accessFlags := 25, slot := 4, constantValue := 0 }, { name := "LATIN1", type := .byte, accessFlags := 24, slot := 5, constantValue := 0 }, { name := "UTF16", type := .byte, accessFlags := 24, slot := 6, constantValue := 0 }]
  methods := #[k7m0, k7m1, k7m2, k7m3, k7m4, k7m5]
  instanceTypes := #[(.array .byte), .byte, .int, .boolean]
  staticTypes := #[.long, .boolean, (.array (.object "java/io/ObjectStreamField")), .char, (.object "java/util/Comparator"), .byte, .byte]
  resolved := Array.replicate 1451 none
  statics := some 0 }

def pool8 : Array CpInfo := pool [(4, .class_ 6), (1, u "java/lang/Object"), (0, u "<init>"), (0, u "()V"), (5, .class_ 16), (1, u "java/lang/StringLatin1"), (73, u "canEncode"), (14, u "(C)Z"), (15, u "$assertionsDisabled"), (0, u "Z"), (98, .class_ 223), (1, u "java/lang/StringLatin1$LinesSpliterator"), (156, u "toBytes"), (1, u "(C)[B"), (7, .class_ 391), (0, u "java/lang/StringLatin1$CharsSpliterator")] 3

def k8m0 : Method := { name := "<init>", desc := "()V", sig := { parameters := [], returnType := none }, accessFlags := 0, code := none }
def k8c1 : Code := { maxStack := 2, maxLocals := 1, code := jdk_43_method_3_code, exceptionTable := #[], attributes := #[] }
def k8m1 : Method := { name := "canEncode", desc := "(C)Z", sig := { parameters := [.char], returnType := some .boolean }, accessFlags := 9, code := some k8c1 }
def k8c2 : Code := { maxStack := 4, maxLocals := 1, code := jdk_43_method_46_code, exceptionTable := #[], attributes := #[] }
def k8m2 : Method := { name := "toBytes", desc := "(C)[B", sig := { parameters := [.char], returnType := some (.array .byte) }, accessFlags := 9, code := some k8c2 }
/-- java/lang/StringLatin1 -/
def k8 : Class := { plain "java/lang/StringLatin1" (some 0) with
  accessFlags := 48
  interfaces := #[]
  cf := some (fileOf pool8 14 #[.nestMembers #[390, 221]] #[{ accessFlags := 0, nameIndex := 7, descriptorIndex := 8, attributes := #[] }, { accessFlags := 9, nameIndex := 90, descriptorIndex := 105, attributes := #[] }, { accessFlags := 9, nameIndex := 380, descriptorIndex := 382, attributes := #[] }] 48 4 #[] #[{ accessFlags := 4120, nameIndex := 121, descriptorIndex := 122, attributes := #[] }])
  fields := #[{ name := "$assertionsDisabled", type := .boolean, accessFlags := 4120, slot := 0, constantValue := 0 }]
  methods := #[k8m0, k8m1, k8m2]
  instanceTypes := #[]
  staticTypes := #[.boolean]
  resolved := Array.replicate 395 none
  statics := none }

def pool9 : Array CpInfo := pool [(1, .methodref 2 3), (0, .class_ 4), (0, .nameAndType 5 6), (0, u "java/lang/Object"), (0, u "<init>"), (0, u "()V"), (0, .string 8), (0, u "uri"), (0, .methodref 10 11), (0, .class_ 12), (0, .nameAndType 13 14), (0, u "java/util/Objects"), (0, u "requireNonNull"), (0, u "(Ljava/lang/Object;Ljava/lang/String;)Ljava/lang/Object;"), (0, .class_ 16), (0, u "java/lang/String"), (0, .fieldref 18 19), (0, .class_ 20), (0, .nameAndType 8 21), (0, u "com/example/larkbridge/larkbridge/mcp/McpResourceContents"), (0, u "Ljava/lang/String;"), (0, .fieldref 18 23), (0, .nameAndType 24 21), (0, u "mimeType"), (0, .fieldref 18 26), (0, .nameAndType 27 21), (0, u "text"), (0, .fieldref 18 29), (0, .nameAndType 30 31), (0, u "bytes"), (0, u "[B"), (0, .string 27), (0, .methodref 18 34), (0, .nameAndType 5 35), (0, u "(Ljava/lang/String;Ljava/lang/String;Ljava/lang/String;[B)V"), (7, u "isText"), (0, u "()Z"), (14, u "(Ljava/lang/String;Ljava/lang/String;Ljava/lang/String;)Lcom/example/larkbridge/larkbridge/mcp/McpResourceContents;"), (2, u "()Ljava/lang/String;"), (1, u "()[B")] 22

def k9c0 : Code := { maxStack := 3, maxLocals := 5, code := prog_44_method_1_code, exceptionTable := #[], attributes := #[] }
def k9m0 : Method := { name := "<init>", desc := "(Ljava/lang/String;Ljava/lang/String;Ljava/lang/String;[B)V", sig := { parameters := [(.object "java/lang/String"), (.object "java/lang/String"), (.object "java/lang/String"), (.array .byte)], returnType := none }, accessFlags := 2, code := some k9c0 }
def k9c1 : Code := { maxStack := 6, maxLocals := 3, code := prog_44_method_2_code, exceptionTable := #[], attributes := #[] }
def k9m1 : Method := { name := "text", desc := "(Ljava/lang/String;Ljava/lang/String;Ljava/lang/String;)Lcom/example/larkbridge/larkbridge/mcp/McpResourceContents;", sig := { parameters := [(.object "java/lang/String"), (.object "java/lang/String"), (.object "java/lang/String")], returnType := some (.object "com/example/larkbridge/larkbridge/mcp/McpResourceContents") }, accessFlags := 9, code := some k9c1 }
def k9c2 : Code := { maxStack := 1, maxLocals := 1, code := prog_44_method_4_code, exceptionTable := #[], attributes := #[] }
def k9m2 : Method := { name := "uri", desc := "()Ljava/lang/String;", sig := { parameters := [], returnType := some (.object "java/lang/String") }, accessFlags := 1, code := some k9c2 }
def k9c3 : Code := { maxStack := 1, maxLocals := 1, code := prog_44_method_5_code, exceptionTable := #[], attributes := #[] }
def k9m3 : Method := { name := "mimeType", desc := "()Ljava/lang/String;", sig := { parameters := [], returnType := some (.object "java/lang/String") }, accessFlags := 1, code := some k9c3 }
def k9c4 : Code := { maxStack := 1, maxLocals := 1, code := prog_44_method_6_code, exceptionTable := #[], attributes := #[] }
def k9m4 : Method := { name := "isText", desc := "()Z", sig := { parameters := [], returnType := some .boolean }, accessFlags := 1, code := some k9c4 }
def k9c5 : Code := { maxStack := 1, maxLocals := 1, code := prog_44_method_7_code, exceptionTable := #[], attributes := #[] }
def k9m5 : Method := { name := "text", desc := "()Ljava/lang/String;", sig := { parameters := [], returnType := some (.object "java/lang/String") }, accessFlags := 1, code := some k9c5 }
def k9c6 : Code := { maxStack := 1, maxLocals := 1, code := prog_44_method_8_code, exceptionTable := #[], attributes := #[] }
def k9m6 : Method := { name := "bytes", desc := "()[B", sig := { parameters := [], returnType := some (.array .byte) }, accessFlags := 1, code := some k9c6 }
/-- com/example/larkbridge/larkbridge/mcp/McpResourceContents -/
def k9 : Class := { plain "com/example/larkbridge/larkbridge/mcp/McpResourceContents" (some 0) with
  accessFlags := 49
  interfaces := #[]
  cf := some (fileOf pool9 18 #[] #[{ accessFlags := 2, nameIndex := 5, descriptorIndex := 35, attributes := #[] }, { accessFlags := 9, nameIndex := 27, descriptorIndex := 59, attributes := #[] }, { accessFlags := 1, nameIndex := 8, descriptorIndex := 62, attributes := #[] }, { accessFlags := 1, nameIndex := 24, descriptorIndex := 62, attributes := #[] }, { accessFlags := 1, nameIndex := 43, descriptorIndex := 44, attributes := #[] }, { accessFlags := 1, nameIndex := 27, descriptorIndex := 62, attributes := #[] }, { accessFlags := 1, nameIndex := 30, descriptorIndex := 64, attributes := #[] }] 49 2 #[] #[{ accessFlags := 18, nameIndex := 8, descriptorIndex := 21, attributes := #[] }, { accessFlags := 18, nameIndex := 24, descriptorIndex := 21, attributes := #[] }, { accessFlags := 18, nameIndex := 27, descriptorIndex := 21, attributes := #[] }, { accessFlags := 18, nameIndex := 30, descriptorIndex := 31, attributes := #[] }])
  fields := #[{ name := "uri", type := (.object "java/lang/String"), accessFlags := 18, slot := 0, constantValue := 0 }, { name := "mimeType", type := (.object "java/lang/String"), accessFlags := 18, slot := 1, constantValue := 0 }, { name := "text", type := (.object "java/lang/String"), accessFlags := 18, slot := 2, constantValue := 0 }, { name := "bytes", type := (.array .byte), accessFlags := 18, slot := 3, constantValue := 0 }]
  methods := #[k9m0, k9m1, k9m2, k9m3, k9m4, k9m5, k9m6]
  instanceTypes := #[(.object "java/lang/String"), (.object "java/lang/String"), (.object "java/lang/String"), (.array .byte)]
  staticTypes := #[]
  resolved := Array.replicate 87 none
  statics := none }

def pool10 : Array CpInfo := pool [(2, .class_ 4), (1, u "java/lang/Object"), (0, u "<init>"), (0, u "()V"), (35, .class_ 44), (1, u "java/util/Objects"), (0, u "requireNonNull"), (48, u "(Ljava/lang/Object;Ljava/lang/String;)Ljava/lang/Object;")] 89

def k10m0 : Method := { name := "<init>", desc := "()V", sig := { parameters := [], returnType := none }, accessFlags := 2, code := none }
def k10c1 : Code := { maxStack := 3, maxLocals := 2, code := jdk_31_method_11_code, exceptionTable := #[], attributes := #[] }
def k10m1 : Method := { name := "requireNonNull", desc := "(Ljava/lang/Object;Ljava/lang/String;)Ljava/lang/Object;", sig := { parameters := [(.object "java/lang/Object"), (.object "java/lang/String")], returnType := some (.object "java/lang/Object") }, accessFlags := 9, code := some k10c1 }
/-- java/util/Objects -/
def k10 : Class := { plain "java/util/Objects" (some 0) with
  accessFlags := 49
  interfaces := #[]
  cf := some (fileOf pool10 42 #[] #[{ accessFlags := 2, nameIndex := 5, descriptorIndex := 6, attributes := #[] }, { accessFlags := 9, nameIndex := 45, descriptorIndex := 94, attributes := #[] }] 49 2 #[] #[])
  fields := #[]
  methods := #[k10m0, k10m1]
  instanceTypes := #[]
  staticTypes := #[]
  resolved := Array.replicate 184 none
  statics := none }

def pool11 : Array CpInfo := pool [(6, .class_ 8), (1, u "java/lang/Object"), (0, u "<init>"), (0, u "()V"), (1, .class_ 14), (1, u "java/lang/StringUTF16"), (31, u "$assertionsDisabled"), (0, u "Z"), (13, u "HI_BYTE_SHIFT"), (0, u "I"), (2, u "LO_BYTE_SHIFT"), (49, .methodref 12 116), (0, .nameAndType 117 118), (0, u "compress"), (0, u "([CI[BII)I"), (3, u "([CII)[B"), (138, u "coderFromArrayLen"), (0, u "([BI)B"), (106, .class_ 371), (1, u "java/lang/StringUTF16$LinesSpliterator"), (58, u "MAX_LENGTH"), (196, .class_ 628), (0, u "java/lang/StringUTF16$CodePointsSpliterator"), (0, .class_ 630), (0, u "java/lang/StringUTF16$CharsSpliterator")] 4

def k11m0 : Method := { name := "<init>", desc := "()V", sig := { parameters := [], returnType := none }, accessFlags := 0, code := none }
def k11c1 : Code := { maxStack := 2, maxLocals := 2, code := jdk_52_method_15_code, exceptionTable := #[], attributes := #[] }
def k11m1 : Method := { name := "coderFromArrayLen", desc := "([BI)B", sig := { parameters := [(.array .byte), .int], returnType := some .byte }, accessFlags := 8, code := some k11c1 }
def k11c2 : Code := { maxStack := 5, maxLocals := 6, code := jdk_52_method_16_code, exceptionTable := #[], attributes := #[] }
def k11m2 : Method := { name := "compress", desc := "([CII)[B", sig := { parameters := [(.array .char), .int, .int], returnType := some (.array .byte) }, accessFlags := 9, code := some k11c2 }
def k11c3 : Code := { maxStack := 3, maxLocals := 7, code := jdk_52_method_21_code, exceptionTable := #[], attributes := #[] }
def k11m3 : Method := { name := "compress", desc := "([CI[BII)I", sig := { parameters := [(.array .char), .int, (.array .byte), .int, .int], returnType := some .int }, accessFlags := 9, code := some k11c3 }
/-- java/lang/StringUTF16 -/
def k11 : Class := { plain "java/lang/StringUTF16" (some 0) with
  accessFlags := 48
  interfaces := #[]
  cf := some (fileOf pool11 12 #[.nestMembers #[627, 629, 369]] #[{ accessFlags := 0, nameIndex := 9, descriptorIndex := 10, attributes := #[] }, { accessFlags := 8, nameIndex := 261, descriptorIndex := 262, attributes := #[] }, { accessFlags := 9, nameIndex := 117, descriptorIndex := 122, attributes := #[] }, { accessFlags := 9, nameIndex := 117, descriptorIndex := 118, attributes := #[] }] 48 6 #[] #[{ accessFlags := 26, nameIndex := 61, descriptorIndex := 62, attributes := #[] }, { accessFlags := 26, nameIndex := 65, descriptorIndex := 62, attributes := #[] }, { accessFlags := 24, nameIndex := 430, descriptorIndex := 62, attributes := #[] }, { accessFlags := 4120, nameIndex := 46, descriptorIndex := 47, attributes := #[] }])
  fields := #[{ name := "HI_BYTE_SHIFT", type := .int, accessFlags := 26, slot := 0, constantValue := 0 }, { name := "LO_BYTE_SHIFT", type := .int, accessFlags := 26, slot := 1, constantValue := 0 }, { name := "MAX_LENGTH", type := .int, accessFlags := 24, slot := 2, constantValue := 0 }, { name := "$assertionsDisabled", type := .boolean, accessFlags := 4120, slot := 3, constantValue := 0 }]
  methods := #[k11m0, k11m1, k11m2, k11m3]
  instanceTypes := #[]
  staticTypes := #[.int, .int, .int, .boolean]
  resolved := Array.replicate 635 none
  statics := none }

def pool12 : Array CpInfo := pool [(2, .class_ 4), (1, u "java/lang/Object"), (0, u "<init>"), (0, u "()V"), (17, .class_ 26), (1, u "jdk/internal/util/Preconditions"), (28, .class_ 56), (0, u "jdk/internal/util/Preconditions$4"), (57, .class_ 115), (0, u "jdk/internal/util/Preconditions$1"), (7, u "SIOOBE_FORMATTER"), (0, u "Ljava/util/function/BiFunction;"), (0, .class_ 126), (0, u "jdk/internal/util/Preconditions$2"), (3, u "AIOOBE_FORMATTER"), (0, .class_ 132), (0, u "jdk/internal/util/Preconditions$3"), (3, u "IOOBE_FORMATTER")] 57

def k12m0 : Method := { name := "<init>", desc := "()V", sig := { parameters := [], returnType := none }, accessFlags := 1, code := none }
/-- jdk/internal/util/Preconditions -/
def k12 : Class := { plain "jdk/internal/util/Preconditions" (some 0) with
  accessFlags := 33
  interfaces := #[]
  cf := some (fileOf pool12 24 #[.nestMembers #[55, 131, 125, 114]] #[{ accessFlags := 1, nameIndex := 5, descriptorIndex := 6, attributes := #[] }] 33 2 #[] #[{ accessFlags := 25, nameIndex := 123, descriptorIndex := 124, attributes := #[] }, { accessFlags := 25, nameIndex := 130, descriptorIndex := 124, attributes := #[] }, { accessFlags := 25, nameIndex := 136, descriptorIndex := 124, attributes := #[] }])
  fields := #[{ name := "SIOOBE_FORMATTER", type := (.object "java/util/function/BiFunction"), accessFlags := 25, slot := 0, constantValue := 0 }, { name := "AIOOBE_FORMATTER", type := (.object "java/util/function/BiFunction"), accessFlags := 25, slot := 1, constantValue := 0 }, { name := "IOOBE_FORMATTER", type := (.object "java/util/function/BiFunction"), accessFlags := 25, slot := 2, constantValue := 0 }]
  methods := #[k12m0]
  instanceTypes := #[]
  staticTypes := #[(.object "java/util/function/BiFunction"), (.object "java/util/function/BiFunction"), (.object "java/util/function/BiFunction")]
  resolved := Array.replicate 194 none
  statics := some 1 }

def pool13 : Array CpInfo := pool [(9, u "<init>"), (6, .class_ 18), (1, u "java/lang/Object"), (0, u "()V"), (1, .class_ 23), (1, u "jdk/internal/util/ArraysSupport"), (0, u "LOG2_ARRAY_LONG_INDEX_SCALE"), (0, u "I"), (2, u "U"), (0, u "Ljdk/internal/misc/Unsafe;"), (8, u "BIG_ENDIAN"), (0, u "Z"), (8, u "LOG2_BYTE_BIT_SIZE"), (4, u "LOG2_ARRAY_INT_INDEX_SCALE"), (54, u "JLA"), (0, u "Ljdk/internal/access/JavaLangAccess;"), (11, u "LOG2_ARRAY_BOOLEAN_INDEX_SCALE"), (9, u "LOG2_ARRAY_BYTE_INDEX_SCALE"), (5, u "LOG2_ARRAY_CHAR_INDEX_SCALE"), (5, u "LOG2_ARRAY_SHORT_INDEX_SCALE"), (18, u "LOG2_ARRAY_FLOAT_INDEX_SCALE"), (24, u "LOG2_ARRAY_DOUBLE_INDEX_SCALE"), (89, u "T_BOOLEAN"), (2, u "T_CHAR"), (1, u "T_FLOAT"), (1, u "T_DOUBLE"), (1, u "T_BYTE"), (1, u "T_SHORT"), (1, u "T_INT"), (1, u "T_LONG"), (1, u "SOFT_MAX_ARRAY_LENGTH")] 83

def k13m0 : Method := { name := "<init>", desc := "()V", sig := { parameters := [], returnType := none }, accessFlags := 2, code := none }
/-- jdk/internal/util/ArraysSupport -/
def k13 : Class := { plain "jdk/internal/util/ArraysSupport" (some 0) with
  accessFlags := 33
  interfaces := #[]
  cf := some (fileOf pool13 21 #[] #[{ accessFlags := 2, nameIndex := 9, descriptorIndex := 19, attributes := #[] }] 33 16 #[] #[{ accessFlags := 24, nameIndex := 28, descriptorIndex := 29, attributes := #[] }, { accessFlags := 26, nameIndex := 38, descriptorIndex := 39, attributes := #[] }, { accessFlags := 25, nameIndex := 121, descriptorIndex := 25, attributes := #[] }, { accessFlags := 25, nameIndex := 131, descriptorIndex := 25, attributes := #[] }, { accessFlags := 25, nameIndex := 137, descriptorIndex := 25, attributes := #[] }, { accessFlags := 25, nameIndex := 143, descriptorIndex := 25, attributes := #[] }, { accessFlags := 25, nameIndex := 53, descriptorIndex := 25, attributes := #[] }, { accessFlags := 25, nameIndex := 24, descriptorIndex := 25, attributes := #[] }, { accessFlags := 25, nameIndex := 162, descriptorIndex := 25, attributes := #[] }, { accessFlags := 25, nameIndex := 187, descriptorIndex := 25, attributes := #[] }, { accessFlags := 26, nameIndex := 48, descriptorIndex := 25, attributes := #[] }, { accessFlags := 25, nameIndex := 277, descriptorIndex := 25, attributes := #[] }, { accessFlags := 25, nameIndex := 280, descriptorIndex := 25, attributes := #[] }, { accessFlags := 25, nameIndex := 282, descriptorIndex := 25, attributes := #[] }, { accessFlags := 25, nameIndex := 284, descriptorIndex := 25, attributes := #[] }, { accessFlags := 25, nameIndex := 286, descriptorIndex := 25, attributes := #[] }, { accessFlags := 25, nameIndex := 288, descriptorIndex := 25, attributes := #[] }, { accessFlags := 25, nameIndex := 290, descriptorIndex := 25, attributes := #[] }, { accessFlags := 25, nameIndex := 292, descriptorIndex := 25, attributes := #[] }, { accessFlags := 26, nameIndex := 108, descriptorIndex := 109, attributes := #[] }, { accessFlags := 25, nameIndex := 294, descriptorIndex := 25, attributes := #[] }])
  fields := #[{ name := "U", type := (.object "jdk/internal/misc/Unsafe"), accessFlags := 24, slot := 0, constantValue := 0 }, { name := "BIG_ENDIAN", type := .boolean, accessFlags := 26, slot := 1, constantValue := 0 }, { name := "LOG2_ARRAY_BOOLEAN_INDEX_SCALE", type := .int, accessFlags := 25, slot := 2, constantValue := 0 }, { name := "LOG2_ARRAY_BYTE_INDEX_SCALE", type := .int, accessFlags := 25, slot := 3, constantValue := 0 }, { name := "LOG2_ARRAY_CHAR_INDEX_SCALE", type := .int, accessFlags := 25, slot := 4, constantValue := 0 }, { name := "LOG2_ARRAY_SHORT_INDEX_SCALE", type := .int, accessFlags := 25, slot := 5, constantValue := 0 }, { name := "LOG2_ARRAY_INT_INDEX_SCALE", type := .int, accessFlags := 25, slot := 6, constantValue := 0 }, { name := "LOG2_ARRAY_LONG_INDEX_SCALE", type := .int, accessFlags := 25, slot := 7, constantValue := 0 }, { name := "LOG2_ARRAY_FLOAT_INDEX_SCALE", type := .int, accessFlags := 25, slot := 8, constantValue := 0 }, { name := "LOG2_ARRAY_DOUBLE_INDEX_SCALE", type := .int, accessFlags := 25, slot := 9, constantValue := 0 }, { name := "LOG2_BYTE_BIT_SIZE", type := .int, accessFlags := 26, slot := 10, constantValue := 0 }, { name := "T_BOOLEAN", type := .int, accessFlags := 25, slot := 11, constantValue := 0 }, { name := "T_CHAR", type := .int, accessFlags := 25, slot := 12, constantValue := 0 }, { name := "T_FLOAT", type := .int, accessFlags := 25, slot := 13, constantValue := 0 }, { name := "T_DOUBLE", type := .int, accessFlags := 25, slot := 14, constantValue := 0 }, { name := "T_BYTE", type := .int, accessFlags := 25, slot := 15, constantValue := 0 }, { name := "T_SHORT", type := .int, accessFlags := 25, slot := 16, constantValue := 0 }, { name := "T_INT", type := .int, accessFlags := 25, slot := 17, constantValue := 0 }, { name := "T_LONG", type := .int, accessFlags := 25, slot := 18, constantValue := 0 }, { name := "JLA", type := (.object "jdk/internal/access/JavaLangAccess"), accessFlags := 26, slot := 19, constantValue := 0 }, { name := "SOFT_MAX_ARRAY_LENGTH", type := .int, accessFlags := 25, slot := 20, constantValue := 0 }]
  methods := #[k13m0]
  instanceTypes := #[]
  staticTypes := #[(.object "jdk/internal/misc/Unsafe"), .boolean, .int, .int, .int, .int, .int, .int, .int, .int, .int, .int, .int, .int, .int, .int, .int, .int, .int, (.object "jdk/internal/access/JavaLangAccess"), .int]
  resolved := Array.replicate 378 none
  statics := none }

def pool14 : Array CpInfo := pool [(1, u "java/lang/Cloneable"), (0, .class_ 1), (0, u "java/lang/Object"), (0, .class_ 3)] 3

/-- java/lang/Cloneable -/
def k14 : Class := { plain "java/lang/Cloneable" (some 0) with
  accessFlags := 1537
  interfaces := #[]
  cf := some (fileOf pool14 2 #[] #[] 1537 4 #[] #[])
  fields := #[]
  methods := #[]
  instanceTypes := #[]
  staticTypes := #[]
  resolved := Array.replicate 8 none
  statics := none }

/-- the primitive byte -/
def k15 : Class := { plain "byte" none with kind := .primitive 'B', accessFlags := 0x411 }
/-- [B -/
def k16 : Class := { plain "[B" (some 0) with kind := .array 15 .byte, interfaces := #[14, 2], accessFlags := 1041 }

/-- the primitive char -/
def k17 : Class := { plain "char" none with kind := .primitive 'C', accessFlags := 0x411 }
/-- [C -/
def k18 : Class := { plain "[C" (some 0) with kind := .array 17 .char, interfaces := #[14, 2], accessFlags := 1041 }

/-- the primitive int -/
def k19 : Class := { plain "int" none with kind := .primitive 'I', accessFlags := 0x411 }
/-- [I -/
def k20 : Class := { plain "[I" (some 0) with kind := .array 19 .int, interfaces := #[14, 2], accessFlags := 1041 }

def heap : Heap := #[{ cls := 7, slots := #[.long 0, .int 1, .null, .int 0, .null, .int 0, .int 0], vm := .statics 7 },
  { cls := 12, slots := #[.null, .null, .null], vm := .statics 12 }]
def classes : Array Class := #[k0, k1, k2, k3, k4, k5, k6, k7, k8, k9, k10, k11, k12, k13, k14, k15, k16, k17, k18, k19, k20]
def interned : List (Array UInt16 × Addr) := []
def slotsUsed : Nat := 10
def theMethod : MethodId := ⟨1, 2⟩
def args0 : Array Value := #[.int 65, .int 70, .int 71, .int 2]
def aboutOver (below : List Frame) : State where
  vm := { classes := classes, interned := interned.toArray }
  heap := heap
  slotsUsed := slotsUsed
  threads := #[{ frames := .invoking theMethod args0 :: below }]
def below0 : List Frame := [.native { method := ⟨0, 0⟩, args := #[] }]
def about1 : State := aboutOver below0
def p0 : Program := .bare "" "" ""
def e0 : Env := launch0.env 0 0 0
theorem w_frames : about1.frames = Frame.invoking theMethod args0 :: below0 := rfl
set_option maxRecDepth 65536 in
theorem w_args : argsFit about1.vm theMethod args0 = true := by decide +kernel
set_option maxRecDepth 65536 in
theorem w_heap : heapFits about1 = true := by decide +kernel
set_option maxRecDepth 65536 in
theorem w_runnable : about1.curStatus? = some .runnable := by decide +kernel
set_option maxRecDepth 65536 in
theorem w_alone : about1.alone = true := by decide +kernel
set_option maxRecDepth 65536 in
theorem w_named : about1.methodNamed? x = some theMethod := by decide +kernel
set_option maxRecDepth 65536 in
theorem w_hears : about1.hears theMethod below0 = true := by decide +kernel
set_option maxRecDepth 65536 in
theorem w_ripe : about1.ripe theMethod args0 below0 = true := by decide +kernel
theorem w_running : about1.status = .running := rfl
set_option maxRecDepth 65536 in
theorem w_room : about1.hasRoom e0.platform room_1 = true :=
  launch0.hasRoom_least _ room_1 (by decide +kernel) (by decide +kernel) (by decide +kernel) (by decide +kernel) (by decide +kernel) (by decide +kernel)
theorem allAtoms_all (ts : List Jvm.Cond) (a : Array Jvm.Value) (st : Jvm.State) : (allAtoms ts).before a st = ts.all (fun c => c.before a st) := by
  induction ts with
  | nil => rfl
  | cons c t ih =>
    show (Jvm.Cond.and c (allAtoms t)).before a st = _
    rw [Jvm.Cond.before_and, ih, List.all_cons]
def words1 : List Jvm.Cond := Jvm.Cond.code x code maxLocals ret :: tables_1
/-- a 'code' word, met by the world's own term for the bytes: nothing is compared byte by byte -/
theorem code_word {y : MethodName} {bytes : ByteArray} {mx : Nat} {rt : Option FieldType} {a : Array Value} {s : State} {m : MethodId} {meth : Method} {c : Code} (h1 : s.methodNamed? y = some m) (h2 : s.vm.method? m = some meth) (h3 : meth.code = some c) (h4 : c.code = bytes)
    (h5 : (c.maxLocals == mx && c.exceptionTable.isEmpty && decide (c.maxStack ≤ mostOperands) && decide (meth.sig.returnType = rt) && !meth.locks && decide (parseMethodDescriptor y.desc = some meth.sig)) = true) : (Jvm.Cond.code y bytes mx rt).before a s = true := by
  simp only [Bool.and_eq_true, beq_iff_eq, Bool.not_eq_true', decide_eq_true_eq] at h5
  obtain ⟨⟨⟨⟨⟨g1, g2⟩, g3⟩, g4⟩, g5⟩, g6⟩ := h5
  simp [Cond.before, Cond.holds, Cond.value, h1, h2, h3, h4, g1, g2, g3, g4, g5, g6]
def isCode : Jvm.Cond → Bool
  | .code _ _ _ _ => true
  | _ => false
theorem all_split {L : List Jvm.Cond} {P : Jvm.Cond → Bool} (h1 : L.all (fun c => isCode c || P c) = true) (h2 : ∀ c ∈ L.filter isCode, P c = true) : L.all P = true := by
  refine List.all_eq_true.mpr fun c hc => ?_
  have h := List.all_eq_true.mp h1 c hc
  rcases Bool.eq_false_or_eq_true (isCode c) with hi | hi
  · exact h2 c (List.mem_filter.mpr ⟨hc, hi⟩)
  · simpa [hi] using h
set_option maxRecDepth 65536 in
theorem w_c0 : (Jvm.Cond.code x code maxLocals ret).before args0 about1 = true := code_word (m := ⟨1, 2⟩) (meth := k1m2) (c := k1c2) (by decide +kernel) rfl rfl rfl (by decide +kernel)
set_option maxRecDepth 65536 in
theorem w_c1 : (Jvm.Cond.code ({ cls := "com/example/larkbridge/larkbridge/mcp/McpResourceContentsTextPinLaw", name := "draw", desc := "(II)Ljava/lang/String;" } : Jvm.MethodName) method_2_code (6 : Nat) (Option.some (Jvm.ClassFile.FieldType.object "java/lang/String"))).before args0 about1 = true := code_word (m := ⟨1, 1⟩) (meth := k1m1) (c := k1c1) (by decide +kernel) rfl rfl rfl (by decide +kernel)
set_option maxRecDepth 65536 in
theorem w_c2 : (Jvm.Cond.code ({ cls := "java/lang/String", name := "valueOf", desc := "(C)Ljava/lang/String;" } : Jvm.MethodName) jdk_42_method_139_code (1 : Nat) (Option.some (Jvm.ClassFile.FieldType.object "java/lang/String"))).before args0 about1 = true := code_word (m := ⟨7, 3⟩) (meth := k7m3) (c := k7c3) (by decide +kernel) rfl rfl rfl (by decide +kernel)
set_option maxRecDepth 65536 in
theorem w_c3 : (Jvm.Cond.code ({ cls := "java/lang/StringLatin1", name := "canEncode", desc := "(C)Z" } : Jvm.MethodName) jdk_43_method_3_code (1 : Nat) (Option.some Jvm.ClassFile.FieldType.boolean)).before args0 about1 = true := code_word (m := ⟨8, 1⟩) (meth := k8m1) (c := k8c1) (by decide +kernel) rfl rfl rfl (by decide +kernel)
set_option maxRecDepth 65536 in
theorem w_c4 : (Jvm.Cond.code ({ cls := "java/lang/StringLatin1", name := "toBytes", desc := "(C)[B" } : Jvm.MethodName) jdk_43_method_46_code (1 : Nat) (Option.some (Jvm.ClassFile.FieldType.array Jvm.ClassFile.FieldType.byte))).before args0 about1 = true := code_word (m := ⟨8, 2⟩) (meth := k8m2) (c := k8c2) (by decide +kernel) rfl rfl rfl (by decide +kernel)
set_option maxRecDepth 65536 in
theorem w_c5 : (Jvm.Cond.code ({ cls := "java/lang/String", name := "<init>", desc := "([BB)V" } : Jvm.MethodName) jdk_42_method_151_code (3 : Nat) (Option.none : Option Jvm.ClassFile.FieldType)).before args0 about1 = true := code_word (m := ⟨7, 5⟩) (meth := k7m5) (c := k7c5) (by decide +kernel) rfl rfl rfl (by decide +kernel)
set_option maxRecDepth 65536 in
theorem w_c6 : (Jvm.Cond.code ({ cls := "java/lang/Object", name := "<init>", desc := "()V" } : Jvm.MethodName) object_method_1_code (1 : Nat) (Option.none : Option Jvm.ClassFile.FieldType)).before args0 about1 = true := code_word (m := ⟨0, 0⟩) (meth := k0m0) (c := k0c0) (by decide +kernel) rfl rfl rfl (by decide +kernel)
set_option maxRecDepth 65536 in
theorem w_c7 : (Jvm.Cond.code ({ cls := "java/lang/String", name := "<init>", desc := "([C)V" } : Jvm.MethodName) jdk_42_method_3_code (2 : Nat) (Option.none : Option Jvm.ClassFile.FieldType)).before args0 about1 = true := code_word (m := ⟨7, 1⟩) (meth := k7m1) (c := k7c1) (by decide +kernel) rfl rfl rfl (by decide +kernel)
set_option maxRecDepth 65536 in
theorem w_c8 : (Jvm.Cond.code ({ cls := "java/lang/String", name := "<init>", desc := "([CIILjava/lang/Void;)V" } : Jvm.MethodName) jdk_42_method_149_code (6 : Nat) (Option.none : Option Jvm.ClassFile.FieldType)).before args0 about1 = true := code_word (m := ⟨7, 4⟩) (meth := k7m4) (c := k7c4) (by decide +kernel) rfl rfl rfl (by decide +kernel)
set_option maxRecDepth 65536 in
theorem w_c9 : (Jvm.Cond.code ({ cls := "com/example/larkbridge/larkbridge/mcp/McpResourceContents", name := "text", desc := "(Ljava/lang/String;Ljava/lang/String;Ljava/lang/String;)Lcom/example/larkbridge/larkbridge/mcp/McpResourceContents;" } : Jvm.MethodName) prog_44_method_2_code (3 : Nat) (Option.some (Jvm.ClassFile.FieldType.object "com/example/larkbridge/larkbridge/mcp/McpResourceContents"))).before args0 about1 = true := code_word (m := ⟨9, 1⟩) (meth := k9m1) (c := k9c1) (by decide +kernel) rfl rfl rfl (by decide +kernel)
set_option maxRecDepth 65536 in
theorem w_c10 : (Jvm.Cond.code ({ cls := "java/util/Objects", name := "requireNonNull", desc := "(Ljava/lang/Object;Ljava/lang/String;)Ljava/lang/Object;" } : Jvm.MethodName) jdk_31_method_11_code (2 : Nat) (Option.some (Jvm.ClassFile.FieldType.object "java/lang/Object"))).before args0 about1 = true := code_word (m := ⟨10, 1⟩) (meth := k10m1) (c := k10c1) (by decide +kernel) rfl rfl rfl (by decide +kernel)
set_option maxRecDepth 65536 in
theorem w_c11 : (Jvm.Cond.code ({ cls := "com/example/larkbridge/larkbridge/mcp/McpResourceContents", name := "<init>", desc := "(Ljava/lang/String;Ljava/lang/String;Ljava/lang/String;[B)V" } : Jvm.MethodName) prog_44_method_1_code (5 : Nat) (Option.none : Option Jvm.ClassFile.FieldType)).before args0 about1 = true := code_word (m := ⟨9, 0⟩) (meth := k9m0) (c := k9c0) (by decide +kernel) rfl rfl rfl (by decide +kernel)
set_option maxRecDepth 65536 in
theorem w_c12 : (Jvm.Cond.code ({ cls := "com/example/larkbridge/larkbridge/mcp/McpResourceContents", name := "mimeType", desc := "()Ljava/lang/String;" } : Jvm.MethodName) prog_44_method_5_code (1 : Nat) (Option.some (Jvm.ClassFile.FieldType.object "java/lang/String"))).before args0 about1 = true := code_word (m := ⟨9, 3⟩) (meth := k9m3) (c := k9c3) (by decide +kernel) rfl rfl rfl (by decide +kernel)
set_option maxRecDepth 65536 in
theorem w_c13 : (Jvm.Cond.code ({ cls := "java/lang/String", name := "equals", desc := "(Ljava/lang/Object;)Z" } : Jvm.MethodName) jdk_42_method_66_code (3 : Nat) (Option.some Jvm.ClassFile.FieldType.boolean)).before args0 about1 = true := code_word (m := ⟨7, 2⟩) (meth := k7m2) (c := k7c2) (by decide +kernel) rfl rfl rfl (by decide +kernel)
set_option maxRecDepth 65536 in
theorem w_c14 : (Jvm.Cond.code ({ cls := "com/example/larkbridge/larkbridge/mcp/McpResourceContents", name := "uri", desc := "()Ljava/lang/String;" } : Jvm.MethodName) prog_44_method_4_code (1 : Nat) (Option.some (Jvm.ClassFile.FieldType.object "java/lang/String"))).before args0 about1 = true := code_word (m := ⟨9, 2⟩) (meth := k9m2) (c := k9c2) (by decide +kernel) rfl rfl rfl (by decide +kernel)
set_option maxRecDepth 65536 in
theorem w_c15 : (Jvm.Cond.code ({ cls := "com/example/larkbridge/larkbridge/mcp/McpResourceContents", name := "isText", desc := "()Z" } : Jvm.MethodName) prog_44_method_6_code (1 : Nat) (Option.some Jvm.ClassFile.FieldType.boolean)).before args0 about1 = true := code_word (m := ⟨9, 4⟩) (meth := k9m4) (c := k9c4) (by decide +kernel) rfl rfl rfl (by decide +kernel)
set_option maxRecDepth 65536 in
theorem w_c16 : (Jvm.Cond.code ({ cls := "com/example/larkbridge/larkbridge/mcp/McpResourceContents", name := "text", desc := "()Ljava/lang/String;" } : Jvm.MethodName) prog_44_method_7_code (1 : Nat) (Option.some (Jvm.ClassFile.FieldType.object "java/lang/String"))).before args0 about1 = true := code_word (m := ⟨9, 5⟩) (meth := k9m5) (c := k9c5) (by decide +kernel) rfl rfl rfl (by decide +kernel)
set_option maxRecDepth 65536 in
theorem w_c17 : (Jvm.Cond.code ({ cls := "com/example/larkbridge/larkbridge/mcp/McpResourceContents", name := "bytes", desc := "()[B" } : Jvm.MethodName) prog_44_method_8_code (1 : Nat) (Option.some (Jvm.ClassFile.FieldType.array Jvm.ClassFile.FieldType.byte))).before args0 about1 = true := code_word (m := ⟨9, 6⟩) (meth := k9m6) (c := k9c6) (by decide +kernel) rfl rfl rfl (by decide +kernel)
set_option maxRecDepth 65536 in
theorem w_c18 : (Jvm.Cond.code ({ cls := "java/lang/StringUTF16", name := "compress", desc := "([CII)[B" } : Jvm.MethodName) jdk_52_method_16_code (6 : Nat) (Option.some (Jvm.ClassFile.FieldType.array Jvm.ClassFile.FieldType.byte))).before args0 about1 = true := code_word (m := ⟨11, 2⟩) (meth := k11m2) (c := k11c2) (by decide +kernel) rfl rfl rfl (by decide +kernel)
set_option maxRecDepth 65536 in
theorem w_c19 : (Jvm.Cond.code ({ cls := "java/lang/StringUTF16", name := "compress", desc := "([CI[BII)I" } : Jvm.MethodName) jdk_52_method_21_code (7 : Nat) (Option.some Jvm.ClassFile.FieldType.int)).before args0 about1 = true := code_word (m := ⟨11, 3⟩) (meth := k11m3) (c := k11c3) (by decide +kernel) rfl rfl rfl (by decide +kernel)
set_option maxRecDepth 65536 in
theorem w_c20 : (Jvm.Cond.code ({ cls := "java/lang/StringUTF16", name := "coderFromArrayLen", desc := "([BI)B" } : Jvm.MethodName) jdk_52_method_15_code (2 : Nat) (Option.some Jvm.ClassFile.FieldType.byte)).before args0 about1 = true := code_word (m := ⟨11, 1⟩) (meth := k11m1) (c := k11c1) (by decide +kernel) rfl rfl rfl (by decide +kernel)
def codes1 : List Jvm.Cond := [Jvm.Cond.code x code maxLocals ret, Jvm.Cond.code ({ cls := "com/example/larkbridge/larkbridge/mcp/McpResourceContentsTextPinLaw", name := "draw", desc := "(II)Ljava/lang/String;" } : Jvm.MethodName) method_2_code (6 : Nat) (Option.some (Jvm.ClassFile.FieldType.object "java/lang/String")), Jvm.Cond.code ({ cls := "java/lang/String", name := "valueOf", desc := "(C)Ljava/lang/String;" } : Jvm.MethodName) jdk_42_method_139_code (1 : Nat) (Option.some (Jvm.ClassFile.FieldType.object "java/lang/String")), Jvm.Cond.code ({ cls := "java/lang/StringLatin1", name := "canEncode", desc := "(C)Z" } : Jvm.MethodName) jdk_43_method_3_code (1 : Nat) (Option.some Jvm.ClassFile.FieldType.boolean), Jvm.Cond.code ({ cls := "java/lang/StringLatin1", name := "toBytes", desc := "(C)[B" } : Jvm.MethodName) jdk_43_method_46_code (1 : Nat) (Option.some (Jvm.ClassFile.FieldType.array Jvm.ClassFile.FieldType.byte)), Jvm.Cond.code ({ cls := "java/lang/String", name := "<init>", desc := "([BB)V" } : Jvm.MethodName) jdk_42_method_151_code (3 : Nat) (Option.none : Option Jvm.ClassFile.FieldType), Jvm.Cond.code ({ cls := "java/lang/Object", name := "<init>", desc := "()V" } : Jvm.MethodName) object_method_1_code (1 : Nat) (Option.none : Option Jvm.ClassFile.FieldType), Jvm.Cond.code ({ cls := "java/lang/String", name := "<init>", desc := "([C)V" } : Jvm.MethodName) jdk_42_method_3_code (2 : Nat) (Option.none : Option Jvm.ClassFile.FieldType), Jvm.Cond.code ({ cls := "java/lang/String", name := "<init>", desc := "([CIILjava/lang/Void;)V" } : Jvm.MethodName) jdk_42_method_149_code (6 : Nat) (Option.none : Option Jvm.ClassFile.FieldType), Jvm.Cond.code ({ cls := "com/example/larkbridge/larkbridge/mcp/McpResourceContents", name := "text", desc := "(Ljava/lang/String;Ljava/lang/String;Ljava/lang/String;)Lcom/example/larkbridge/larkbridge/mcp/McpResourceContents;" } : Jvm.MethodName) prog_44_method_2_code (3 : Nat) (Option.some (Jvm.ClassFile.FieldType.object "com/example/larkbridge/larkbridge/mcp/McpResourceContents")), Jvm.Cond.code ({ cls := "java/util/Objects", name := "requireNonNull", desc := "(Ljava/lang/Object;Ljava/lang/String;)Ljava/lang/Object;" } : Jvm.MethodName) jdk_31_method_11_code (2 : Nat) (Option.some (Jvm.ClassFile.FieldType.object "java/lang/Object")), Jvm.Cond.code ({ cls := "com/example/larkbridge/larkbridge/mcp/McpResourceContents", name := "<init>", desc := "(Ljava/lang/String;Ljava/lang/String;Ljava/lang/String;[B)V" } : Jvm.MethodName) prog_44_method_1_code (5 : Nat) (Option.none : Option Jvm.ClassFile.FieldType), Jvm.Cond.code ({ cls := "com/example/larkbridge/larkbridge/mcp/McpResourceContents", name := "mimeType", desc := "()Ljava/lang/String;" } : Jvm.MethodName) prog_44_method_5_code (1 : Nat) (Option.some (Jvm.ClassFile.FieldType.object "java/lang/String")), Jvm.Cond.code ({ cls := "java/lang/String", name := "equals", desc := "(Ljava/lang/Object;)Z" } : Jvm.MethodName) jdk_42_method_66_code (3 : Nat) (Option.some Jvm.ClassFile.FieldType.boolean), Jvm.Cond.code ({ cls := "com/example/larkbridge/larkbridge/mcp/McpResourceContents", name := "uri", desc := "()Ljava/lang/String;" } : Jvm.MethodName) prog_44_method_4_code (1 : Nat) (Option.some (Jvm.ClassFile.FieldType.object "java/lang/String")), Jvm.Cond.code ({ cls := "com/example/larkbridge/larkbridge/mcp/McpResourceContents", name := "isText", desc := "()Z" } : Jvm.MethodName) prog_44_method_6_code (1 : Nat) (Option.some Jvm.ClassFile.FieldType.boolean), Jvm.Cond.code ({ cls := "com/example/larkbridge/larkbridge/mcp/McpResourceContents", name := "text", desc := "()Ljava/lang/String;" } : Jvm.MethodName) prog_44_method_7_code (1 : Nat) (Option.some (Jvm.ClassFile.FieldType.object "java/lang/String")), Jvm.Cond.code ({ cls := "com/example/larkbridge/larkbridge/mcp/McpResourceContents", name := "bytes", desc := "()[B" } : Jvm.MethodName) prog_44_method_8_code (1 : Nat) (Option.some (Jvm.ClassFile.FieldType.array Jvm.ClassFile.FieldType.byte)), Jvm.Cond.code ({ cls := "java/lang/StringUTF16", name := "compress", desc := "([CII)[B" } : Jvm.MethodName) jdk_52_method_16_code (6 : Nat) (Option.some (Jvm.ClassFile.FieldType.array Jvm.ClassFile.FieldType.byte)), Jvm.Cond.code ({ cls := "java/lang/StringUTF16", name := "compress", desc := "([CI[BII)I" } : Jvm.MethodName) jdk_52_method_21_code (7 : Nat) (Option.some Jvm.ClassFile.FieldType.int), Jvm.Cond.code ({ cls := "java/lang/StringUTF16", name := "coderFromArrayLen", desc := "([BI)B" } : Jvm.MethodName) jdk_52_method_15_code (2 : Nat) (Option.some Jvm.ClassFile.FieldType.byte)]
set_option maxRecDepth 65536 in
theorem codes_eq : words1.filter isCode = codes1 := rfl
theorem w_codes : ∀ c ∈ words1.filter isCode, c.before args0 about1 = true := by
  rw [codes_eq]
  intro c hc
  simp only [codes1, List.mem_cons, List.not_mem_nil, or_false] at hc
  rcases hc with rfl | rfl | rfl | rfl | rfl | rfl | rfl | rfl | rfl | rfl | rfl | rfl | rfl | rfl | rfl | rfl | rfl | rfl | rfl | rfl | rfl
  · exact w_c0
  · exact w_c1
  · exact w_c2
  · exact w_c3
  · exact w_c4
  · exact w_c5
  · exact w_c6
  · exact w_c7
  · exact w_c8
  · exact w_c9
  · exact w_c10
  · exact w_c11
  · exact w_c12
  · exact w_c13
  · exact w_c14
  · exact w_c15
  · exact w_c16
  · exact w_c17
  · exact w_c18
  · exact w_c19
  · exact w_c20
set_option maxRecDepth 65536 in
theorem w_t1 : (words1.take 24).all (fun c => isCode c || c.before args0 about1) = true := by decide +kernel
set_option maxRecDepth 65536 in
theorem w_t2 : ((words1.drop 24).take 24).all (fun c => isCode c || c.before args0 about1) = true := by decide +kernel
set_option maxRecDepth 65536 in
theorem w_t3 : (((words1.drop 24).drop 24).take 24).all (fun c => isCode c || c.before args0 about1) = true := by decide +kernel
set_option maxRecDepth 65536 in
theorem w_t4 : ((((words1.drop 24).drop 24).drop 24).take 24).all (fun c => isCode c || c.before args0 about1) = true := by decide +kernel
set_option maxRecDepth 65536 in
theorem w_t5 : ((((words1.drop 24).drop 24).drop 24).drop 24).all (fun c => isCode c || c.before args0 about1) = true := by decide +kernel
theorem w_tables : (allAtoms (Jvm.Cond.code x code maxLocals ret :: tables_1)).before args0 about1 = true := by
  rw [allAtoms_all]
  show words1.all (fun c => c.before args0 about1) = true
  refine all_split ?_ w_codes
  rw [← List.take_append_drop 24 words1, List.all_append, w_t1, ← List.take_append_drop 24 (words1.drop 24), List.all_append, w_t2, ← List.take_append_drop 24 ((words1.drop 24).drop 24), List.all_append, w_t3, ← List.take_append_drop 24 (((words1.drop 24).drop 24).drop 24), List.all_append, w_t4, w_t5]
  rfl
set_option maxRecDepth 65536 in
theorem w_rest : rest_1_c.before args0 about1 = true := by decide +kernel
set_option maxRecDepth 65536 in
theorem w_case : (Jvm.Cond.and given_1 narrow_1).before args0 about1 = true := by decide +kernel
set_option maxRecDepth 65536 in
theorem w_consts : constsHeld consts_1 about1 := Jvm.Lit.constsHeldB_iff.mp (by decide +kernel)
theorem w_applies : (headSpec (Jvm.Cond.code x code maxLocals ret :: tables_1) room_1).applies x e0.platform about1 = true :=
  (Spec.applies_iff w_frames).mpr ⟨w_running, w_runnable, w_alone, w_named, w_hears, w_ripe, w_room, w_tables⟩
theorem atStart : AtStart classFile x code maxLocals ret World_1 tables_1 room_1 Calls_1 rest_1 Pre_1 launch0 p0 e0 about1 theMethod args0 below0 :=
  ⟨lists_1, trivial, launch0.admits_env _ _ _, launch0.least_env, fairChoices_fair.cas, fairChoices_fair.clock, w_frames, w_args, w_heap, w_applies, ⟨w_consts, trivial⟩, w_rest, w_case⟩
end start1
theorem witness_1 : WitnessClaimed_1 := ⟨start1.p0, start1.e0, start1.about1, start1.theMethod, start1.args0, start1.below0, start1.atStart⟩
end Jvm.Pilot.@@N@@
