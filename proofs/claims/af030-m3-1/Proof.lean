import JvmDerived
import JvmDerived.Pilot.@@N@@Statement
import JvmDerived.Pilot.@@N@@Code
set_option linter.unusedVariables false
set_option linter.unusedSimpArgs false
/- laws to paste: Road.backV (cut by pick.py; bodies as the Statement names them) -/
namespace Jvm.Pilot.@@N@@
namespace StrChars
open Jvm Sem ClassFile Op Lib Jvm.Stand Jvm.Free.XT Jvm.Free.ALB Jvm.Free.JM Jvm.Free
open Jvm.Lib.Cold (StaticIs)
/-- a char array whose places are chars -/
def Ch (a : Addr) (A : Cell) (U : State) : Prop := Arr .char a A U ∧ Typed .char A
theorem Ch.mv {a : Addr} {A : Cell} {U U' : State} (h : Ch a A U) (hal : U.vm.Alike U'.vm) (hh : U'.heap = U.heap) : Ch a A U' := ⟨h.1.mv hal hh, h.2⟩
theorem Ch.keep {a : Addr} {A : Cell} {U U' : State} (h : Ch a A U) (hal : U.vm.Alike U'.vm) (hk : U'.heap[a]? = some A) : Ch a A U' := ⟨h.1.keep hal hk, h.2⟩
/-- what place i of a char[]'s cell holds -/
def cv (A : Cell) (i : Nat) : Int32 := match A.slots[i]? with | some (.int x) => x | _ => 0
theorem Ch.get {a : Addr} {A : Cell} {U : State} (h : Ch a A U) {i : Nat} (hi : i < A.slots.size) : A.slots[i]? = some (.int (cv A i)) := by
  have e := Array.getElem?_eq_getElem hi
  have f := h.2 i _ e
  unfold cv; rw [e]
  generalize A.slots[i] = v at f
  cases v <;> simp [fits] at f ⊢
/-- the byte that i2b leaves of a char -/
def lo8 (x : Int32) : Int32 := x.toInt8.toInt32
theorem fits_lo8 (y : Int32) : fits .byte (.int (lo8 y)) = true := by
  have h1 := y.toInt8.le_toInt
  have h2 := y.toInt8.toInt_lt
  simp only [lo8, fits, Bool.and_eq_true, decide_eq_true_eq, Int32.le_iff_toInt_le, Int8.toInt_toInt32, show (-128 : Int32).toInt = -128 from by decide, show (127 : Int32).toInt = 127 from by decide]
  omega
/-- A' is A but that each place j of lo .. hi - 1 holds f j -/
def Laid (A A' : Cell) (lo hi : Nat) (f : Nat → Value) : Prop := A'.cls = A.cls ∧ A'.vm = A.vm ∧ A'.slots.size = A.slots.size ∧ ∀ i, A'.slots[i]? = if lo ≤ i ∧ i < hi then some (f i) else A.slots[i]?
theorem Laid.zero (A : Cell) (lo : Nat) (f : Nat → Value) : Laid A A lo (lo + 0) f := ⟨rfl, rfl, rfl, fun i => by rw [if_neg (by omega)]⟩
theorem Laid.step {A Ak : Cell} {lo k : Nat} {f : Nat → Value} {v : Value} (h : Laid A Ak lo k f) (hlo : lo ≤ k) (hk : k < Ak.slots.size) (hv : v = f k) : Laid A (Ak.setSlot k v) lo (k + 1) f := by
  refine ⟨h.1, h.2.1, by simpa [Cell.setSlot] using h.2.2.1, fun i => ?_⟩
  by_cases e : k = i
  · subst e; rw [Cell.slots_setSlot_self v hk, if_pos (by omega), hv]
  · rw [Cell.slots_setSlot_ne v e, h.2.2.2 i]
    by_cases q : lo ≤ i ∧ i < k
    · rw [if_pos q, if_pos (by omega)]
    · rw [if_neg q, if_neg (by omega)]
def U16 : String := "java/lang/StringUTF16"
namespace Cmp5
def yN : MethodName := ⟨"java/lang/StringUTF16", "compress", "([CI[BII)I"⟩
abbrev yB : ByteArray := jdk_52_method_21_code
theorem d0 : decode yB 0 = .ok (.iconst 0, 1) := by decide +kernel
theorem d1 : decode yB 1 = .ok (.istore 5, 2) := by decide +kernel
theorem d3 : decode yB 3 = .ok (.iload 5, 2) := by decide +kernel
theorem d5 : decode yB 5 = .ok (.iload 4, 2) := by decide +kernel
theorem d7 : decode yB 7 = .ok (.if_icmp (.ge) 37, 3) := by decide +kernel
theorem d10 : decode yB 10 = .ok (.aload_n 0, 1) := by decide +kernel
theorem d11 : decode yB 11 = .ok (.iload_n 1, 1) := by decide +kernel
theorem d12 : decode yB 12 = .ok (.caload, 1) := by decide +kernel
theorem d13 : decode yB 13 = .ok (.istore 6, 2) := by decide +kernel
theorem d15 : decode yB 15 = .ok (.iload 6, 2) := by decide +kernel
theorem d17 : decode yB 17 = .ok (.sipush 255, 3) := by decide +kernel
theorem d20 : decode yB 20 = .ok (.if_icmp (.le) 6, 3) := by decide +kernel
theorem d26 : decode yB 26 = .ok (.aload_n 2, 1) := by decide +kernel
theorem d27 : decode yB 27 = .ok (.iload_n 3, 1) := by decide +kernel
theorem d28 : decode yB 28 = .ok (.iload 6, 2) := by decide +kernel
theorem d30 : decode yB 30 = .ok (.i2b, 1) := by decide +kernel
theorem d31 : decode yB 31 = .ok (.bastore, 1) := by decide +kernel
theorem d32 : decode yB 32 = .ok (.iinc 1 1, 3) := by decide +kernel
theorem d35 : decode yB 35 = .ok (.iinc 3 1, 3) := by decide +kernel
theorem d38 : decode yB 38 = .ok (.iinc 5 1, 3) := by decide +kernel
theorem d41 : decode yB 41 = .ok (.goto (-38), 3) := by decide +kernel
theorem d44 : decode yB 44 = .ok (.iload 4, 2) := by decide +kernel
theorem d46 : decode yB 46 = .ok (.ireturn, 1) := by decide +kernel
def site : List Cond := []
def tab : Cond := tabOf yN yB 7 (some .int) site
def P (b : Addr) (A : Cell) (d : Addr) (B : Cell) (o q len : Nat) (args : Array Value) (s : State) : Prop := args = #[.ref b, .int (Int32.ofNat o), .ref d, .int (Int32.ofNat q), .int (Int32.ofNat len)] ∧ Ch b A s ∧ Arr .byte d B s ∧ b ≠ d ∧ o + len ≤ A.slots.size ∧ q + len ≤ B.slots.size ∧ ∀ i, i < len → ¬ 255 < cv A (o + i)
def E (b : Addr) (A : Cell) (d : Addr) (B : Cell) (o q len : Nat) (r : Option Value) (s u : State) : Prop := r = some (.int (Int32.ofNat len)) ∧ ∃ B', Put d B' s u ∧ Laid B B' q (q + len) (fun j => Value.int (lo8 (cv A (o + (j - q)))))
/-- no char of the range above 255: len; the places written hold each char's low byte -/
theorem law (l : Launch) (b : Addr) (A : Cell) (d : Addr) (B : Cell) (o q len : Nat) : Law l yN 5 5 0 0 yB 7 (some .int) site (P b A d B o q len) (E b A d B o q len) (copyLocs d q len) 0 0 := by
  refine Law.of_walk (plainFor_of_name (by decide +kernel)) (by decide +kernel) (by decide +kernel) (by decide) (fun _ _ h => by rw [h.1]; rfl) (fun _ U U' hal hh h => ⟨h.1, h.2.1.mv hal hh, h.2.2.1.mv hal hh, h.2.2.2⟩) (fun r U U' V V' h1 hal h2 h => ⟨h.1, h.2.elim fun B' q => ⟨B', q.1.mv h1 h2, q.2⟩⟩) ?_
  intro p e s m args below meth c s₁ X0 hexec hbytes hml hret hlk hnm hown hh0 W hP
  obtain ⟨rfl, hA, hB, hne, l1, l2, hp⟩ := hP
  have c1 : Steps p.tables e below (s₁.setTop (entryFrame m #[.ref b, .int (Int32.ofNat o), .ref d, .int (Int32.ofNat q), .int (Int32.ofNat len)] 7)) (s₁.setTop (mkF m 0 #[.val (.ref b), .val (.int (Int32.ofNat o)), .val (.ref d), .val (.int (Int32.ofNat q)), .val (.int (Int32.ofNat len)), .unset, .unset] [])) := entry rfl
  have hA0 := hA.1.mv X0.warmed.alike hh0
  have hB0 := hB.mv X0.warmed.alike hh0
  have a31 := hA.1.2.2.2
  have c2 : Steps p.tables e below (s₁.setTop (entryFrame m #[.ref b, .int (Int32.ofNat o), .ref d, .int (Int32.ofNat q), .int (Int32.ofNat len)] 7)) (s₁.setTop (mkF m 3 #[.val (.ref b), .val (.int (Int32.ofNat o)), .val (.ref d), .val (.int (Int32.ofNat q)), .val (.int (Int32.ofNat len)), .val (.int 0), .unset] [])) := c1.trans (by
    refine iconstV X0.here hexec rfl 0 (hb hbytes d0) (by decide) ?_
    refine XS.istore X0.here hexec rfl (hb hbytes d1) rfl rfl ?_
    exact Steps.refl _)
  have loop : ∀ (r i : Nat), i + r = len → ∀ (z : Slot), (z = .unset ∨ ∃ w, z = .val w ∧ w.category = 1) → ∀ (Tl : State) (Bk : Cell), Stand p l e { frames := 0, locals := 0, cells := 0, slots := 0 } s m #[.ref b, .int (Int32.ofNat o), .ref d, .int (Int32.ofNat q), .int (Int32.ofNat len)] below meth c Tl ([] ++ copyLocs d q i) 0 0 → Put d Bk s₁ Tl → Laid B Bk q (q + i) (fun j => Value.int (lo8 (cv A (o + (j - q))))) →
      Steps p.tables e below (s₁.setTop (entryFrame m #[.ref b, .int (Int32.ofNat o), .ref d, .int (Int32.ofNat q), .int (Int32.ofNat len)] 7)) (Tl.setTop (mkF m 3 #[.val (.ref b), .val (.int (Int32.ofNat (o + i))), .val (.ref d), .val (.int (Int32.ofNat (q + i))), .val (.int (Int32.ofNat len)), .val (.int (Int32.ofNat i)), z] [])) → ∃ (T' : State) (B' : Cell) (z' : Slot), Stand p l e { frames := 0, locals := 0, cells := 0, slots := 0 } s m #[.ref b, .int (Int32.ofNat o), .ref d, .int (Int32.ofNat q), .int (Int32.ofNat len)] below meth c T' ([] ++ copyLocs d q len) 0 0 ∧ Put d B' s₁ T' ∧ Laid B B' q (q + len) (fun j => Value.int (lo8 (cv A (o + (j - q))))) ∧
      Steps p.tables e below (s₁.setTop (entryFrame m #[.ref b, .int (Int32.ofNat o), .ref d, .int (Int32.ofNat q), .int (Int32.ofNat len)] 7)) (T'.setTop (mkF m 3 #[.val (.ref b), .val (.int (Int32.ofNat (o + len))), .val (.ref d), .val (.int (Int32.ofNat (q + len))), .val (.int (Int32.ofNat len)), .val (.int (Int32.ofNat len)), z'] [])) := by
    intro r
    induction r with
    | zero =>
      intro i hi z hz Tl Bk Xl pl fl cl
      have hil : i = len := by omega
      rw [hil] at Xl fl cl
      exact ⟨Tl, Bk, z, Xl, pl, fl, cl⟩
    | succ r ih =>
      intro i hi z hz Tl Bk Xl pl fl cl
      have all := X0.warmed.alike.symm.trans Xl.warmed.alike
      have hAl := hA0.keep all (pl.other hne hA0.1)
      have hBk := hB0.like all pl.1 fl.1 fl.2.1 fl.2.2.1
      have hlt : q + i < Bk.slots.size := by rw [fl.2.2.1]; omega
      have c3 : Steps p.tables e below (s₁.setTop (entryFrame m #[.ref b, .int (Int32.ofNat o), .ref d, .int (Int32.ofNat q), .int (Int32.ofNat len)] 7)) (Tl.setTop (mkF m 12 #[.val (.ref b), .val (.int (Int32.ofNat (o + i))), .val (.ref d), .val (.int (Int32.ofNat (q + i))), .val (.int (Int32.ofNat len)), .val (.int (Int32.ofNat i)), z] [.int (Int32.ofNat (o + i)), .ref b])) := cl.trans (by
        refine XS.iload Xl.here hexec rfl (hb hbytes d3) rfl ?_
        refine XS.iload Xl.here hexec rfl (hb hbytes d5) rfl ?_
        refine XS.icmpNo Xl.here hexec rfl (hb hbytes d7) rfl (ii_ge_f (lt32 (by omega) (by omega))) ?_
        refine XS.aloadN Xl.here hexec rfl (hb hbytes d10) rfl rfl ?_
        refine XS.iloadN Xl.here hexec rfl (hb hbytes d11) rfl ?_
        exact Steps.refl _)
      have c4 : Steps p.tables e below (s₁.setTop (entryFrame m #[.ref b, .int (Int32.ofNat o), .ref d, .int (Int32.ofNat q), .int (Int32.ofNat len)] 7)) (Tl.setTop (mkF m 13 #[.val (.ref b), .val (.int (Int32.ofNat (o + i))), .val (.ref d), .val (.int (Int32.ofNat (q + i))), .val (.int (Int32.ofNat len)), .val (.int (Int32.ofNat i)), z] [.int (cv A (o + i))])) := c3.trans (by
        refine Xl.aget hexec hAl rfl (hA.get (i := o + i) (by omega)) rfl rfl (hb hbytes d12) ?_
        exact Steps.refl _)
      have c5 : Steps p.tables e below (s₁.setTop (entryFrame m #[.ref b, .int (Int32.ofNat o), .ref d, .int (Int32.ofNat q), .int (Int32.ofNat len)] 7)) (Tl.setTop (mkF m 15 #[.val (.ref b), .val (.int (Int32.ofNat (o + i))), .val (.ref d), .val (.int (Int32.ofNat (q + i))), .val (.int (Int32.ofNat len)), .val (.int (Int32.ofNat i)), .val (.int (cv A (o + i)))] [])) := c4.trans (by
        refine XS.istoreS Xl.here hexec rfl (hb hbytes d13) rfl rfl hz ?_
        exact Steps.refl _)
      have c6 : Steps p.tables e below (s₁.setTop (entryFrame m #[.ref b, .int (Int32.ofNat o), .ref d, .int (Int32.ofNat q), .int (Int32.ofNat len)] 7)) (Tl.setTop (mkF m 31 #[.val (.ref b), .val (.int (Int32.ofNat (o + i))), .val (.ref d), .val (.int (Int32.ofNat (q + i))), .val (.int (Int32.ofNat len)), .val (.int (Int32.ofNat i)), .val (.int (cv A (o + i)))] [.int (lo8 (cv A (o + i))), .int (Int32.ofNat (q + i)), .ref d])) := c5.trans (by
        refine XS.iload Xl.here hexec rfl (hb hbytes d15) rfl ?_
        refine sipushV Xl.here hexec rfl 255 (hb hbytes d17) (by decide) ?_
        refine XS.icmpYes Xl.here hexec rfl (pc0 := 20) rfl (hb hbytes d20) rfl (ii_le_t (hp i (by omega))) (by decide) rfl ?_
        refine XS.aloadN Xl.here hexec rfl (hb hbytes d26) rfl rfl ?_
        refine XS.iloadN Xl.here hexec rfl (hb hbytes d27) rfl ?_
        refine XS.iload Xl.here hexec rfl (hb hbytes d28) rfl ?_
        refine i2b Xl.here hexec rfl (hb hbytes d30) rfl ?_
        exact Steps.refl _)
      obtain ⟨T7, X7, p7, st7⟩ := Xl.aput hexec hBk rfl hlt rfl (fits_lo8 (cv A (o + i))) (g := (mkF m 31 #[.val (.ref b), .val (.int (Int32.ofNat (o + i))), .val (.ref d), .val (.int (Int32.ofNat (q + i))), .val (.int (Int32.ofNat len)), .val (.int (Int32.ofNat i)), .val (.int (cv A (o + i)))] [.int (lo8 (cv A (o + i))), .int (Int32.ofNat (q + i)), .ref d])) rfl (rest := []) rfl (hb hbytes d31)
      have c8 : Steps p.tables e below (s₁.setTop (entryFrame m #[.ref b, .int (Int32.ofNat o), .ref d, .int (Int32.ofNat q), .int (Int32.ofNat len)] 7)) (T7.setTop (mkF m 32 #[.val (.ref b), .val (.int (Int32.ofNat (o + i))), .val (.ref d), .val (.int (Int32.ofNat (q + i))), .val (.int (Int32.ofNat len)), .val (.int (Int32.ofNat i)), .val (.int (cv A (o + i)))] [])) := c6.trans (st7 _ (Steps.refl _))
      have c9 : Steps p.tables e below (s₁.setTop (entryFrame m #[.ref b, .int (Int32.ofNat o), .ref d, .int (Int32.ofNat q), .int (Int32.ofNat len)] 7)) (T7.setTop (mkF m 3 #[.val (.ref b), .val (.int (Int32.ofNat (o + i) + 1)), .val (.ref d), .val (.int (Int32.ofNat (q + i) + 1)), .val (.int (Int32.ofNat len)), .val (.int (Int32.ofNat i + 1)), .val (.int (cv A (o + i)))] [])) := c8.trans (by
        refine iincV X7.here hexec rfl 1 (hb hbytes d32) (by decide) rfl rfl ?_
        refine iincV X7.here hexec rfl 1 (hb hbytes d35) (by decide) rfl rfl ?_
        refine iincV X7.here hexec rfl 1 (hb hbytes d38) (by decide) rfl rfl ?_
        refine XS.goto X7.here hexec rfl (pc0 := 41) rfl (hb hbytes d41) (by decide) rfl ?_
        exact Steps.refl _)
      have c10 : Steps p.tables e below (s₁.setTop (entryFrame m #[.ref b, .int (Int32.ofNat o), .ref d, .int (Int32.ofNat q), .int (Int32.ofNat len)] 7)) (T7.setTop (mkF m 3 #[.val (.ref b), .val (.int (Int32.ofNat (o + (i + 1)))), .val (.ref d), .val (.int (Int32.ofNat (q + (i + 1)))), .val (.int (Int32.ofNat len)), .val (.int (Int32.ofNat (i + 1))), .val (.int (cv A (o + i)))] [])) := by
        have := c9
        rw [succ32, succ32, succ32] at this
        exact this
      exact ih (i + 1) (by omega) _ (Or.inr ⟨_, rfl, rfl⟩) T7 _ (by rw [copyLocs_step, ← List.append_assoc]; exact X7) (pl.trans p7) (fl.step (by omega) hlt (by simp)) c10
  obtain ⟨T9, B9, z9, X9, p9, f9, g9⟩ := loop len 0 (by omega) .unset (Or.inl rfl) s₁ B (by simpa [copyLocs] using X0) ⟨hB0.1, fun _ _ => rfl, rfl⟩ (Laid.zero _ _ _) c2
  have c11 : Steps p.tables e below (s₁.setTop (entryFrame m #[.ref b, .int (Int32.ofNat o), .ref d, .int (Int32.ofNat q), .int (Int32.ofNat len)] 7)) (T9.setTop (mkF m 46 #[.val (.ref b), .val (.int (Int32.ofNat (o + len))), .val (.ref d), .val (.int (Int32.ofNat (q + len))), .val (.int (Int32.ofNat len)), .val (.int (Int32.ofNat len)), z9] [.int (Int32.ofNat len)])) := g9.trans (by
    refine XS.iload X9.here hexec rfl (hb hbytes d3) rfl ?_
    refine XS.iload X9.here hexec rfl (hb hbytes d5) rfl ?_
    refine XS.icmpYes X9.here hexec rfl (pc0 := 7) rfl (hb hbytes d7) rfl (ii_ge_t (nlt32 (by omega) (Nat.le_refl _))) (by decide) rfl ?_
    refine XS.iload X9.here hexec rfl (hb hbytes d44) rfl ?_
    exact Steps.refl _)
  exact ⟨T9, some (.int (Int32.ofNat len)), _, _, _, X9, by simp, rfl, rfl, (fun h => by cases h), ⟨rfl, B9, p9.from hh0, f9⟩, fun fs hl => c11.trans (X9.ireturnOut hexec hret rfl (Or.inl rfl) (hb hbytes d46) hl)⟩
end Cmp5
namespace Cmp3
def yN : MethodName := ⟨"java/lang/StringUTF16", "compress", "([CII)[B"⟩
abbrev yB : ByteArray := jdk_52_method_16_code
theorem d0 : decode yB 0 = .ok (.iload_n 2, 1) := by decide +kernel
theorem d1 : decode yB 1 = .ok (.newarray .byte, 2) := by decide +kernel
theorem d3 : decode yB 3 = .ok (.astore_n 3, 1) := by decide +kernel
theorem d4 : decode yB 4 = .ok (.aload_n 0, 1) := by decide +kernel
theorem d5 : decode yB 5 = .ok (.iload_n 1, 1) := by decide +kernel
theorem d6 : decode yB 6 = .ok (.aload_n 3, 1) := by decide +kernel
theorem d7 : decode yB 7 = .ok (.iconst 0, 1) := by decide +kernel
theorem d8 : decode yB 8 = .ok (.iload_n 2, 1) := by decide +kernel
theorem d9 : decode yB 9 = .ok (.invokestatic 115, 3) := by decide +kernel
theorem d12 : decode yB 12 = .ok (.istore 4, 2) := by decide +kernel
theorem d14 : decode yB 14 = .ok (.iload 4, 2) := by decide +kernel
theorem d16 : decode yB 16 = .ok (.iload_n 2, 1) := by decide +kernel
theorem d17 : decode yB 17 = .ok (.if_icmp (.eq) 40, 3) := by decide +kernel
theorem d57 : decode yB 57 = .ok (.aload_n 3, 1) := by decide +kernel
theorem d58 : decode yB 58 = .ok (.areturn, 1) := by decide +kernel
def site : List Cond := [.arrayClass .byte, Cmp5.tab] ++ staticW U16 115 Cmp5.yN
def tab : Cond := tabOf yN yB 6 (some (.array .byte)) site
def P (b : Addr) (A : Cell) (o len : Nat) (args : Array Value) (s : State) : Prop := args = #[.ref b, .int (Int32.ofNat o), .int (Int32.ofNat len)] ∧ Ch b A s ∧ o + len ≤ A.slots.size ∧ len ≤ 536870912 ∧ ∀ i, i < len → ¬ 255 < cv A (o + i)
def E (b : Addr) (A : Cell) (o len : Nat) (r : Option Value) (s u : State) : Prop := NewArr .byte "[B" len (fun j => .int (lo8 (cv A (o + j)))) r s u ∧ u.heap.size = s.heap.size + 1
/-- no char of the range above 255: a new byte[] of their low bytes -/
theorem law (l : Launch) (b : Addr) (A : Cell) (o len : Nat) : Law l yN 3 3 1 18 yB 6 (some (.array .byte)) site (P b A o len) (E b A o len) [] 1 len := by
  refine Law.of_walk (plainFor_of_name (by decide +kernel)) (by decide +kernel) (by decide +kernel) (by decide) (fun _ _ h => by rw [h.1]; rfl) (fun _ U U' hal hh h => ⟨h.1, h.2.1.mv hal hh, h.2.2⟩) (fun r U U' V V' h1 hal h2 h => ⟨NewArr.mv r U U' V V' h1 hal h2 h.1, by rw [h1, h2]; exact h.2⟩) ?_
  intro p e s m args below meth c s₁ X0 hexec hbytes hml hret hlk hnm hown hh0 W hP
  obtain ⟨rfl, hA, l1, l2, hp⟩ := hP
  have a31 := hA.1.2.2.2
  have c1 : Steps p.tables e below (s₁.setTop (entryFrame m #[.ref b, .int (Int32.ofNat o), .int (Int32.ofNat len)] 6)) (s₁.setTop (mkF m 0 #[.val (.ref b), .val (.int (Int32.ofNat o)), .val (.int (Int32.ofNat len)), .unset, .unset, .unset] [])) := entry rfl
  have c2 : Steps p.tables e below (s₁.setTop (entryFrame m #[.ref b, .int (Int32.ofNat o), .int (Int32.ofNat len)] 6)) (s₁.setTop (mkF m 1 #[.val (.ref b), .val (.int (Int32.ofNat o)), .val (.int (Int32.ofNat len)), .unset, .unset, .unset] [.int (Int32.ofNat len)])) := c1.trans (by
    refine XS.iloadN X0.here hexec rfl (hb hbytes d0) rfl ?_
    exact Steps.refl _)
  obtain ⟨T3, B3, X3, ba3, bs3, bv3, bh3, bf3, st3⟩ := X0.anew hexec (atype := .byte) (wk W (.arrayClass .byte)) rfl (by show len * 1 ≤ _; omega) (by omega) (g := (mkF m 1 #[.val (.ref b), .val (.int (Int32.ofNat o)), .val (.int (Int32.ofNat len)), .unset, .unset, .unset] [.int (Int32.ofNat len)])) rfl (hb hbytes d1) (rest := []) rfl (Nat.le_refl _) (by show 0 + len ≤ len; omega)
  rw [hh0] at ba3 st3
  have kp3 : XT.Kept s T3 := (XT.Kept.of_eq hh0).push bh3
  have hA3 := hA.keep X3.warmed.alike (kp3 _ _ hA.1.1)
  have hne : b ≠ s.heap.size := hA.1.ne
  have c4 : Steps p.tables e below (s₁.setTop (entryFrame m #[.ref b, .int (Int32.ofNat o), .int (Int32.ofNat len)] 6)) (T3.setTop (mkF m 3 #[.val (.ref b), .val (.int (Int32.ofNat o)), .val (.int (Int32.ofNat len)), .unset, .unset, .unset] [.ref s.heap.size])) := c2.trans (st3 _ (Steps.refl _))
  have c5 : Steps p.tables e below (s₁.setTop (entryFrame m #[.ref b, .int (Int32.ofNat o), .int (Int32.ofNat len)] 6)) (T3.setTop (mkF m 9 #[.val (.ref b), .val (.int (Int32.ofNat o)), .val (.int (Int32.ofNat len)), .val (.ref s.heap.size), .unset, .unset] [.int (Int32.ofNat len), .int 0, .ref s.heap.size, .int (Int32.ofNat o), .ref b])) := c4.trans (by
    refine XS.astoreN X3.here hexec rfl (hb hbytes d3) rfl rfl rfl ?_
    refine XS.aloadN X3.here hexec rfl (hb hbytes d4) rfl rfl ?_
    refine XS.iloadN X3.here hexec rfl (hb hbytes d5) rfl ?_
    refine XS.aloadN X3.here hexec rfl (hb hbytes d6) rfl rfl ?_
    refine iconstV X3.here hexec rfl 0 (hb hbytes d7) (by decide) ?_
    refine XS.iloadN X3.here hexec rfl (hb hbytes d8) rfl ?_
    exact Steps.refl _)
  obtain ⟨v6, T6, X6, E6, g6⟩ := X3.callS hexec (Cmp5.law l b A s.heap.size B3 o 0 len) hown (wks W (staticW U16 115 Cmp5.yN)) (wk W Cmp5.tab) (W := 0) (Nat.le_of_ble_eq_true rfl) (Nat.le_of_ble_eq_true rfl) (Nat.le_refl _) (by show 0 + len + 0 ≤ len; omega) (g := (mkF m 9 #[.val (.ref b), .val (.int (Int32.ofNat o)), .val (.int (Int32.ofNat len)), .val (.ref s.heap.size), .unset, .unset] [.int (Int32.ofNat len), .int (Int32.ofNat 0), .ref s.heap.size, .int (Int32.ofNat o), .ref b])) rfl (by rw [hml]; rfl) c5 (argsL := [.ref b, .int (Int32.ofNat o), .ref s.heap.size, .int (Int32.ofNat 0), .int (Int32.ofNat len)]) (rest := []) rfl rfl (by show 2 * 0 + 0 ≤ _; decide) (hb hbytes d9) (⟨rfl, hA3, ba3, hne, l1, by rw [bs3]; simp, hp⟩)
  obtain ⟨rfl, B6, p6, f6⟩ := E6
  have c7 : Steps p.tables e below (s₁.setTop (entryFrame m #[.ref b, .int (Int32.ofNat o), .int (Int32.ofNat len)] 6)) (T6.setTop (mkF m 12 #[.val (.ref b), .val (.int (Int32.ofNat o)), .val (.int (Int32.ofNat len)), .val (.ref s.heap.size), .unset, .unset] [.int (Int32.ofNat len)])) := g6
  have c8 : Steps p.tables e below (s₁.setTop (entryFrame m #[.ref b, .int (Int32.ofNat o), .int (Int32.ofNat len)] 6)) (T6.setTop (mkF m 58 #[.val (.ref b), .val (.int (Int32.ofNat o)), .val (.int (Int32.ofNat len)), .val (.ref s.heap.size), .val (.int (Int32.ofNat len)), .unset] [.ref s.heap.size])) := c7.trans (by
    refine XS.istore X6.here hexec rfl (hb hbytes d12) rfl rfl ?_
    refine XS.iload X6.here hexec rfl (hb hbytes d14) rfl ?_
    refine XS.iloadN X6.here hexec rfl (hb hbytes d16) rfl ?_
    refine XS.icmpYes X6.here hexec rfl (pc0 := 17) rfl (hb hbytes d17) rfl (ii_eq_t rfl) (by decide) rfl ?_
    refine XS.aloadN X6.here hexec rfl (hb hbytes d57) rfl rfl ?_
    exact Steps.refl _)
  have X8 := X6.wide (L' := []) (cells' := 1) (slots' := len) (fun x hx hlt => by
    simp only [List.nil_append, copyLocs, List.mem_map, List.mem_range] at hx
    obtain ⟨i, -, rfl⟩ := hx
    exact absurd hlt (Nat.lt_irrefl _)) (Nat.le_refl _) (by omega)
  exact ⟨T6, some (.ref s.heap.size), _, _, _, X8, rfl, rfl, rfl, (fun h => by cases h), ⟨⟨rfl, B6, ba3.like (X3.warmed.alike.symm.trans X6.warmed.alike) p6.1 f6.1 f6.2.1 f6.2.2.1, f6.2.1.trans bv3, by rw [X6.warmed.alike.findClass, f6.1]; exact bf3, by rw [f6.2.2.1, bs3]; simp, fun j hj => by rw [f6.2.2.2 j, if_pos (by omega)]; rfl, kp3.put p6 (Nat.le_refl _)⟩, by rw [p6.2.2, bh3, hh0]; simp⟩, fun fs hl => c8.trans (X8.areturnOut hexec rfl hret rfl (hb hbytes d58) hl)⟩
end Cmp3
namespace CodL
def yN : MethodName := ⟨"java/lang/StringUTF16", "coderFromArrayLen", "([BI)B"⟩
abbrev yB : ByteArray := jdk_52_method_15_code
theorem d0 : decode yB 0 = .ok (.iload_n 1, 1) := by decide +kernel
theorem d1 : decode yB 1 = .ok (.aload_n 0, 1) := by decide +kernel
theorem d2 : decode yB 2 = .ok (.arraylength, 1) := by decide +kernel
theorem d3 : decode yB 3 = .ok (.isub, 1) := by decide +kernel
theorem d4 : decode yB 4 = .ok (.bipush 31, 2) := by decide +kernel
theorem d6 : decode yB 6 = .ok (.iushr, 1) := by decide +kernel
theorem d7 : decode yB 7 = .ok (.i2b, 1) := by decide +kernel
theorem d8 : decode yB 8 = .ok (.ireturn, 1) := by decide +kernel
def site : List Cond := []
def tab : Cond := tabOf yN yB 2 (some .byte) site
def P (d : Addr) (B : Cell) (args : Array Value) (s : State) : Prop := args = #[.ref d, .int (Int32.ofNat B.slots.size)] ∧ Arr .byte d B s
def E (r : Option Value) (s u : State) : Prop := XT.PureE (some (.int 0)) r s u
/-- an array as long as the number of chars: LATIN1 -/
theorem law (l : Launch) (d : Addr) (B : Cell) : Law l yN 2 2 0 0 yB 2 (some .byte) site (P d B) E [] 0 0 := by
  refine Law.of_walk (plainFor_of_name (by decide +kernel)) (by decide +kernel) (by decide +kernel) (by decide) (fun _ _ h => by rw [h.1]; rfl) (fun _ U U' hal hh h => ⟨h.1, h.2.mv hal hh⟩) (fun r U U' V V' h1 hal h2 h => XT.PureE.mv r U U' V V' h1 hal h2 h) ?_
  intro p e s m args below meth c s₁ X0 hexec hbytes hml hret hlk hnm hown hh0 W hP
  obtain ⟨rfl, hB⟩ := hP
  have hB0 := hB.mv X0.warmed.alike hh0
  have c1 : Steps p.tables e below (s₁.setTop (entryFrame m #[.ref d, .int (Int32.ofNat B.slots.size)] 2)) (s₁.setTop (mkF m 0 #[.val (.ref d), .val (.int (Int32.ofNat B.slots.size))] [])) := entry rfl
  have c2 : Steps p.tables e below (s₁.setTop (entryFrame m #[.ref d, .int (Int32.ofNat B.slots.size)] 2)) (s₁.setTop (mkF m 2 #[.val (.ref d), .val (.int (Int32.ofNat B.slots.size))] [.ref d, .int (Int32.ofNat B.slots.size)])) := c1.trans (by
    refine XS.iloadN X0.here hexec rfl (hb hbytes d0) rfl ?_
    refine XS.aloadN X0.here hexec rfl (hb hbytes d1) rfl rfl ?_
    exact Steps.refl _)
  have c3 : Steps p.tables e below (s₁.setTop (entryFrame m #[.ref d, .int (Int32.ofNat B.slots.size)] 2)) (s₁.setTop (mkF m 8 #[.val (.ref d), .val (.int (Int32.ofNat B.slots.size))] [.int (lo8 (ushr (Int32.ofNat B.slots.size - Int32.ofNat B.slots.size) 31))])) := c2.trans (by
    refine X0.alen hexec hB0 rfl rfl (hb hbytes d2) ?_
    refine XS.isub X0.here hexec rfl (hb hbytes d3) rfl ?_
    refine bipushV X0.here hexec rfl 31 (hb hbytes d4) (by decide) ?_
    refine iushr X0.here hexec rfl (hb hbytes d6) rfl ?_
    refine i2b X0.here hexec rfl (hb hbytes d7) rfl ?_
    exact Steps.refl _)
  have e0 : lo8 (ushr (Int32.ofNat B.slots.size - Int32.ofNat B.slots.size) 31) = 0 := by rw [Int32.sub_self]; decide
  rw [e0] at c3
  exact ⟨s₁, some (.int 0), _, _, _, X0, rfl, rfl, rfl, (fun h => by cases h), ⟨rfl, hh0⟩, fun fs hl => c3.trans (X0.ireturnOut hexec hret rfl (Or.inr (Or.inr (Or.inl rfl))) (hb hbytes d8) hl)⟩
end CodL
/-- the String at a is Latin-1 over a new byte[] (the heap's one new cell): the low bytes of the len chars of A from o on; every cell but a is kept -/
def Got (a : Addr) (D : Cell) (fV fC : Field) (A : Cell) (o len : Nat) (r : Option Value) (s u : State) : Prop := r = none ∧ ∃ D' V : Cell, Blank "java/lang/String" a D' u ∧ Same D D' [fV.slot, fC.slot] ∧ D'.slots[fV.slot]? = some (.ref s.heap.size) ∧ D'.slots[fC.slot]? = some (.int 0) ∧ Arr .byte s.heap.size V u ∧ V.vm = .none ∧ u.vm.findClass "[B" = some V.cls ∧ V.slots.size = len ∧ (∀ j, j < len → V.slots[j]? = some (.int (lo8 (cv A (o + j))))) ∧ (∀ (y : Addr) (c : Cell), y ≠ a → s.heap[y]? = some c → u.heap[y]? = some c) ∧ u.heap.size = s.heap.size + 1
theorem Got.mv {a : Addr} {D A : Cell} {fV fC : Field} {o len : Nat} : ∀ r (U U' V V' : State), U'.heap = U.heap → V.vm.Alike V'.vm → V'.heap = V.heap → Got a D fV fC A o len r U V → Got a D fV fC A o len r U' V' :=
  fun r U U' V V' h1 hal h2 ⟨e0, D', X, a1, a2, a3, a4, a5, a6, a7, a8, a9, a10, a11⟩ => ⟨e0, D', X, a1.mv hal h2, a2, by rw [h1]; exact a3, a4, by rw [h1]; exact a5.mv hal h2, a6, by rw [hal.findClass]; exact a7, a8, a9, by rw [h1, h2]; exact a10, by rw [h1, h2]; exact a11⟩
namespace New4
def yN : MethodName := ⟨"java/lang/String", "<init>", "([CIILjava/lang/Void;)V"⟩
abbrev yB : ByteArray := jdk_42_method_149_code
theorem d0 : decode yB 0 = .ok (.aload_n 0, 1) := by decide +kernel
theorem d1 : decode yB 1 = .ok (.invokespecial 1, 3) := by decide +kernel
theorem d4 : decode yB 4 = .ok (.iload_n 3, 1) := by decide +kernel
theorem d5 : decode yB 5 = .ok (.ifCond (.ne) 22, 3) := by decide +kernel
theorem d27 : decode yB 27 = .ok (.getstatic 38, 3) := by decide +kernel
theorem d30 : decode yB 30 = .ok (.ifCond (.eq) 28, 3) := by decide +kernel
theorem d33 : decode yB 33 = .ok (.aload_n 1, 1) := by decide +kernel
theorem d34 : decode yB 34 = .ok (.iload_n 2, 1) := by decide +kernel
theorem d35 : decode yB 35 = .ok (.iload_n 3, 1) := by decide +kernel
theorem d36 : decode yB 36 = .ok (.invokestatic 177, 3) := by decide +kernel
theorem d39 : decode yB 39 = .ok (.astore 5, 2) := by decide +kernel
theorem d41 : decode yB 41 = .ok (.aload_n 0, 1) := by decide +kernel
theorem d42 : decode yB 42 = .ok (.aload 5, 2) := by decide +kernel
theorem d44 : decode yB 44 = .ok (.iload_n 3, 1) := by decide +kernel
theorem d45 : decode yB 45 = .ok (.invokestatic 47, 3) := by decide +kernel
theorem d48 : decode yB 48 = .ok (.putfield 15, 3) := by decide +kernel
theorem d51 : decode yB 51 = .ok (.aload_n 0, 1) := by decide +kernel
theorem d52 : decode yB 52 = .ok (.aload 5, 2) := by decide +kernel
theorem d54 : decode yB 54 = .ok (.putfield 9, 3) := by decide +kernel
theorem d57 : decode yB 57 = .ok (.return_, 1) := by decide +kernel
def site : List Cond := [.fieldLink "java/lang/String" 38 "java/lang/String" "COMPACT_STRINGS" "Z", Cmp3.tab, CodL.tab, .laysFinal "java/lang/String" "java/lang/String" "value" "[B", .fieldLink "java/lang/String" 9 "java/lang/String" "value" "[B", .laysFinal "java/lang/String" "java/lang/String" "coder" "B", .fieldLink "java/lang/String" 15 "java/lang/String" "coder" "B"] ++ objW "java/lang/String" 1 ++ staticW "java/lang/String" 177 Cmp3.yN ++ staticW "java/lang/String" 47 CodL.yN
def tab : Cond := tabOf yN yB 6 none site
def P (a : Addr) (D : Cell) (fV fC : Field) (b : Addr) (A : Cell) (z : Int32) (o len : Nat) (args : Array Value) (s : State) : Prop := args = #[.ref a, .ref b, .int (Int32.ofNat o), .int (Int32.ofNat len), .null] ∧ Blank "java/lang/String" a D s ∧ Found "java/lang/String" "value" "[B" fV s ∧ Found "java/lang/String" "coder" "B" fC s ∧ Ch b A s ∧ StaticIs s "java/lang/String" "COMPACT_STRINGS" "Z" (.int z) ∧ ¬ z = 0 ∧ 0 < len ∧ o + len ≤ A.slots.size ∧ len ≤ 536870912 ∧ ∀ i, i < len → ¬ 255 < cv A (o + i)
def E (a : Addr) (D : Cell) (fV fC : Field) (A : Cell) (o len : Nat) (r : Option Value) (s u : State) : Prop := Got a D fV fC A o len r s u
/-- len > 0, no char of the range above 255: a Latin-1 String of their low bytes -/
theorem law (l : Launch) (a : Addr) (D : Cell) (fV fC : Field) (b : Addr) (A : Cell) (z : Int32) (o len : Nat) : Law l yN 5 4 2 35 yB 6 none site (P a D fV fC b A z o len) (E a D fV fC A o len) [⟨a, fC.slot⟩, ⟨a, fV.slot⟩] 1 len := by
  refine Law.of_walk (plainFor_of_name (by decide +kernel)) (by decide +kernel) (by decide +kernel) (by decide) (fun _ _ h => by rw [h.1]; rfl) (fun _ U U' hal hh h => ⟨h.1, h.2.1.mv hal hh, h.2.2.1.al hal, h.2.2.2.1.al hal, h.2.2.2.2.1.mv hal hh, h.2.2.2.2.2.1.there hal hh, h.2.2.2.2.2.2⟩) (fun r U U' V V' h1 hal h2 h => Got.mv r U U' V V' h1 hal h2 h) ?_
  intro p e s m args below meth c s₁ X0 hexec hbytes hml hret hlk hnm hown hh0 W hP
  obtain ⟨rfl, hB, f1, f2, hA, s1, hz, l0, l1, l2, hp⟩ := hP
  have a31 := hA.1.2.2.2
  have c1 : Steps p.tables e below (s₁.setTop (entryFrame m #[.ref a, .ref b, .int (Int32.ofNat o), .int (Int32.ofNat len), .null] 6)) (s₁.setTop (mkF m 0 #[.val (.ref a), .val (.ref b), .val (.int (Int32.ofNat o)), .val (.int (Int32.ofNat len)), .val .null, .unset] [])) := entry rfl
  have c2 : Steps p.tables e below (s₁.setTop (entryFrame m #[.ref a, .ref b, .int (Int32.ofNat o), .int (Int32.ofNat len), .null] 6)) (s₁.setTop (mkF m 1 #[.val (.ref a), .val (.ref b), .val (.int (Int32.ofNat o)), .val (.int (Int32.ofNat len)), .val .null, .unset] [.ref a])) := c1.trans (by
    refine XS.aloadN X0.here hexec rfl (hb hbytes d0) rfl rfl ?_
    exact Steps.refl _)
  obtain ⟨T3, X3, q3, st3⟩ := X0.oinit hexec hown (wks W (objW "java/lang/String" 1)) (g := (mkF m 1 #[.val (.ref a), .val (.ref b), .val (.int (Int32.ofNat o)), .val (.int (Int32.ofNat len)), .val .null, .unset] [.ref a])) rfl (by rw [hml]; rfl) (rest := []) rfl (hb hbytes d1) (W := 0) (by show 2 * 0 + 0 ≤ _; decide) (Nat.le_of_ble_eq_true rfl) (Nat.le_of_ble_eq_true rfl)
  have hh3 := q3.trans hh0
  have c4 : Steps p.tables e below (s₁.setTop (entryFrame m #[.ref a, .ref b, .int (Int32.ofNat o), .int (Int32.ofNat len), .null] 6)) (T3.setTop (mkF m 27 #[.val (.ref a), .val (.ref b), .val (.int (Int32.ofNat o)), .val (.int (Int32.ofNat len)), .val .null, .unset] [])) := (c2.trans (st3 _ (Steps.refl _))).trans (by
    refine XS.iloadN X3.here hexec rfl (hb hbytes d4) rfl ?_
    refine XS.ifYes X3.here hexec rfl (pc0 := 5) rfl (hb hbytes d5) rfl (i0_ne_t (nz32 (by omega) l0)) (by decide) rfl ?_
    exact Steps.refl _)
  obtain ⟨T5, X5, q5, st5⟩ := X3.sget hexec hown (wk W (.fieldLink "java/lang/String" 38 "java/lang/String" "COMPACT_STRINGS" "Z")) s1 (fun _ _ h => by rw [hh3]; exact h) (g := (mkF m 27 #[.val (.ref a), .val (.ref b), .val (.int (Int32.ofNat o)), .val (.int (Int32.ofNat len)), .val .null, .unset] [])) rfl (hb hbytes d27)
  have hh5 := q5.trans hh3
  have c6 : Steps p.tables e below (s₁.setTop (entryFrame m #[.ref a, .ref b, .int (Int32.ofNat o), .int (Int32.ofNat len), .null] 6)) (T5.setTop (mkF m 30 #[.val (.ref a), .val (.ref b), .val (.int (Int32.ofNat o)), .val (.int (Int32.ofNat len)), .val .null, .unset] [.int z])) := c4.trans (st5 _ (Steps.refl _))
  have c7 : Steps p.tables e below (s₁.setTop (entryFrame m #[.ref a, .ref b, .int (Int32.ofNat o), .int (Int32.ofNat len), .null] 6)) (T5.setTop (mkF m 36 #[.val (.ref a), .val (.ref b), .val (.int (Int32.ofNat o)), .val (.int (Int32.ofNat len)), .val .null, .unset] [.int (Int32.ofNat len), .int (Int32.ofNat o), .ref b])) := c6.trans (by
    refine XS.ifNo X5.here hexec rfl (hb hbytes d30) rfl (i0_eq_f hz) ?_
    refine XS.aloadN X5.here hexec rfl (hb hbytes d33) rfl rfl ?_
    refine XS.iloadN X5.here hexec rfl (hb hbytes d34) rfl ?_
    refine XS.iloadN X5.here hexec rfl (hb hbytes d35) rfl ?_
    exact Steps.refl _)
  obtain ⟨v8, T8, X8, E8, g8⟩ := X5.callS hexec (Cmp3.law l b A o len) hown (wks W (staticW "java/lang/String" 177 Cmp3.yN)) (wk W Cmp3.tab) (W := 0) (Nat.le_of_ble_eq_true rfl) (Nat.le_of_ble_eq_true rfl) (Nat.le_refl _) (by show 0 + len ≤ len; omega) (g := (mkF m 36 #[.val (.ref a), .val (.ref b), .val (.int (Int32.ofNat o)), .val (.int (Int32.ofNat len)), .val .null, .unset] [.int (Int32.ofNat len), .int (Int32.ofNat o), .ref b])) rfl (by rw [hml]; rfl) c7 (argsL := [.ref b, .int (Int32.ofNat o), .int (Int32.ofNat len)]) (rest := []) rfl rfl (by show 2 * 0 + 0 ≤ _; decide) (hb hbytes d36) (⟨rfl, hA.mv X5.warmed.alike hh5, l1, l2, hp⟩)
  obtain ⟨e8, z8⟩ := E8
  obtain ⟨rfl, N, n1, n2, n3, n4, n5, n6⟩ := NewArr.mv _ T5 s _ _ hh5.symm (Vm.Alike.refl _) rfl e8
  rw [hh5] at z8
  have hB1 := hB.keep X8.warmed.alike (n6 _ _ hB.1)
  have hne : s.heap.size ≠ a := (Nat.ne_of_lt (Array.getElem?_eq_some_iff.mp hB.1).1).symm
  have c9 : Steps p.tables e below (s₁.setTop (entryFrame m #[.ref a, .ref b, .int (Int32.ofNat o), .int (Int32.ofNat len), .null] 6)) (T8.setTop (mkF m 39 #[.val (.ref a), .val (.ref b), .val (.int (Int32.ofNat o)), .val (.int (Int32.ofNat len)), .val .null, .unset] [.ref s.heap.size])) := g8
  have c10 : Steps p.tables e below (s₁.setTop (entryFrame m #[.ref a, .ref b, .int (Int32.ofNat o), .int (Int32.ofNat len), .null] 6)) (T8.setTop (mkF m 45 #[.val (.ref a), .val (.ref b), .val (.int (Int32.ofNat o)), .val (.int (Int32.ofNat len)), .val .null, .val (.ref s.heap.size)] [.int (Int32.ofNat N.slots.size), .ref s.heap.size, .ref a])) := by
    have hc : Steps p.tables e below (s₁.setTop (entryFrame m #[.ref a, .ref b, .int (Int32.ofNat o), .int (Int32.ofNat len), .null] 6)) (T8.setTop (mkF m 45 #[.val (.ref a), .val (.ref b), .val (.int (Int32.ofNat o)), .val (.int (Int32.ofNat len)), .val .null, .val (.ref s.heap.size)] [.int (Int32.ofNat len), .ref s.heap.size, .ref a])) := c9.trans (by
      refine XS.astore X8.here hexec rfl (hb hbytes d39) rfl rfl rfl ?_
      refine XS.aloadN X8.here hexec rfl (hb hbytes d41) rfl rfl ?_
      refine XS.aload X8.here hexec rfl (hb hbytes d42) rfl rfl ?_
      refine XS.iloadN X8.here hexec rfl (hb hbytes d44) rfl ?_
      exact Steps.refl _)
    rw [n4]; exact hc
  obtain ⟨v11, T11, X11, E11, g11⟩ := X8.callS hexec (CodL.law l s.heap.size N) hown (wks W (staticW "java/lang/String" 47 CodL.yN)) (wk W CodL.tab) (W := 1) (Nat.le_of_ble_eq_true rfl) (Nat.le_of_ble_eq_true rfl) (Nat.le_refl _) (by show 0 + len + 0 ≤ len; omega) (g := (mkF m 45 #[.val (.ref a), .val (.ref b), .val (.int (Int32.ofNat o)), .val (.int (Int32.ofNat len)), .val .null, .val (.ref s.heap.size)] [.int (Int32.ofNat N.slots.size), .ref s.heap.size, .ref a])) rfl (by rw [hml]; rfl) c10 (argsL := [.ref s.heap.size, .int (Int32.ofNat N.slots.size)]) (rest := [.ref a]) rfl rfl (by show 2 * 0 + (1 + 0) ≤ _; decide) (hb hbytes d45) (⟨rfl, n1⟩)
  obtain ⟨rfl, q11⟩ := E11
  have hB11 := hB1.mv (X8.warmed.alike.symm.trans X11.warmed.alike) q11
  have c12 : Steps p.tables e below (s₁.setTop (entryFrame m #[.ref a, .ref b, .int (Int32.ofNat o), .int (Int32.ofNat len), .null] 6)) (T11.setTop (mkF m 48 #[.val (.ref a), .val (.ref b), .val (.int (Int32.ofNat o)), .val (.int (Int32.ofNat len)), .val .null, .val (.ref s.heap.size)] [.int 0, .ref a])) := g11
  obtain ⟨T13, X13, p13, bl13, sl13, st13⟩ := X11.finit hexec hown (wk W (.fieldLink "java/lang/String" 15 "java/lang/String" "coder" "B")) (Or.inr ⟨_, (wk W (.laysFinal "java/lang/String" "java/lang/String" "coder" "B"))⟩) (Or.inl ⟨rfl, hnm⟩) f2 (Or.inl rfl) hB11 (t := .byte) (by decide +kernel) rfl (g := (mkF m 48 #[.val (.ref a), .val (.ref b), .val (.int (Int32.ofNat o)), .val (.int (Int32.ofNat len)), .val .null, .val (.ref s.heap.size)] [.int 0, .ref a])) rfl (rest := []) rfl (hb hbytes d48)
  have c14 : Steps p.tables e below (s₁.setTop (entryFrame m #[.ref a, .ref b, .int (Int32.ofNat o), .int (Int32.ofNat len), .null] 6)) (T13.setTop (mkF m 54 #[.val (.ref a), .val (.ref b), .val (.int (Int32.ofNat o)), .val (.int (Int32.ofNat len)), .val .null, .val (.ref s.heap.size)] [.ref s.heap.size, .ref a])) := (c12.trans (st13 _ (Steps.refl _))).trans (by
    refine XS.aloadN X13.here hexec rfl (hb hbytes d51) rfl rfl ?_
    refine XS.aload X13.here hexec rfl (hb hbytes d52) rfl rfl ?_
    exact Steps.refl _)
  obtain ⟨T15, X15, p15, bl15, sl15, st15⟩ := X13.finit hexec hown (wk W (.fieldLink "java/lang/String" 9 "java/lang/String" "value" "[B")) (Or.inr ⟨_, (wk W (.laysFinal "java/lang/String" "java/lang/String" "value" "[B"))⟩) (Or.inl ⟨rfl, hnm⟩) f1 (Or.inl rfl) bl13 (t := (.array .byte)) (by decide +kernel) rfl (g := (mkF m 54 #[.val (.ref a), .val (.ref b), .val (.int (Int32.ofNat o)), .val (.int (Int32.ofNat len)), .val .null, .val (.ref s.heap.size)] [.ref s.heap.size, .ref a])) rfl (rest := []) rfl (hb hbytes d54)
  have c16 : Steps p.tables e below (s₁.setTop (entryFrame m #[.ref a, .ref b, .int (Int32.ofNat o), .int (Int32.ofNat len), .null] 6)) (T15.setTop (mkF m 57 #[.val (.ref a), .val (.ref b), .val (.int (Int32.ofNat o)), .val (.int (Int32.ofNat len)), .val .null, .val (.ref s.heap.size)] [])) := c14.trans (st15 _ (Steps.refl _))
  have ap := apart (Or.inr ⟨_, (wk W (.laysFinal "java/lang/String" "java/lang/String" "value" "[B"))⟩) (Or.inr ⟨_, (wk W (.laysFinal "java/lang/String" "java/lang/String" "coder" "B"))⟩) f1 f2 (t₁ := .array .byte) (t₂ := .byte) (by decide +kernel) (by decide +kernel) (by decide)
  have al := X8.warmed.alike.symm.trans X15.warmed.alike
  have n7 : T11.heap[s.heap.size]? = some N := by rw [q11]; exact n1.1
  exact ⟨T15, none, _, _, _, X15, by simp, rfl, by omega, (fun _ => rfl), ⟨rfl, _, N, bl15, ((Same.refl D _).set _ (by simp)).set _ (by simp), sl15, (Cell.slots_setSlot_ne _ ap).trans sl13, n1.keep al (p15.other hne (p13.other hne n7)), n2, by rw [al.findClass]; exact n3, n4, n5, fun y c h1 h2 => p15.other h1 (p13.other h1 (by rw [q11]; exact n6 y c h2)), by rw [p15.2.2, p13.2.2, q11]; exact z8⟩, fun fs hl => c16.trans (X15.returnOut hexec hret (hb hbytes d57) hl)⟩
end New4
namespace New1
def yN : MethodName := ⟨"java/lang/String", "<init>", "([C)V"⟩
abbrev yB : ByteArray := jdk_42_method_3_code
theorem d0 : decode yB 0 = .ok (.aload_n 0, 1) := by decide +kernel
theorem d1 : decode yB 1 = .ok (.aload_n 1, 1) := by decide +kernel
theorem d2 : decode yB 2 = .ok (.iconst 0, 1) := by decide +kernel
theorem d3 : decode yB 3 = .ok (.aload_n 1, 1) := by decide +kernel
theorem d4 : decode yB 4 = .ok (.arraylength, 1) := by decide +kernel
theorem d5 : decode yB 5 = .ok (.aconst_null, 1) := by decide +kernel
theorem d6 : decode yB 6 = .ok (.invokespecial 27, 3) := by decide +kernel
theorem d9 : decode yB 9 = .ok (.return_, 1) := by decide +kernel
def site : List Cond := [New4.tab] ++ initW "java/lang/String" 27 New4.yN
def tab : Cond := tabOf yN yB 2 none site
def P (a : Addr) (D : Cell) (fV fC : Field) (b : Addr) (A : Cell) (z : Int32) (args : Array Value) (s : State) : Prop := args = #[.ref a, .ref b] ∧ Blank "java/lang/String" a D s ∧ Found "java/lang/String" "value" "[B" fV s ∧ Found "java/lang/String" "coder" "B" fC s ∧ Ch b A s ∧ StaticIs s "java/lang/String" "COMPACT_STRINGS" "Z" (.int z) ∧ ¬ z = 0 ∧ 0 < A.slots.size ∧ A.slots.size ≤ 536870912 ∧ ∀ i, i < A.slots.size → ¬ 255 < cv A i
def E (a : Addr) (D : Cell) (fV fC : Field) (A : Cell) (r : Option Value) (s u : State) : Prop := Got a D fV fC A 0 A.slots.size r s u
/-- new String(chars), not empty, no char above 255: a Latin-1 String of their low bytes -/
theorem law (l : Launch) (a : Addr) (D : Cell) (fV fC : Field) (b : Addr) (A : Cell) (z : Int32) : Law l yN 2 1 3 52 yB 2 none site (P a D fV fC b A z) (E a D fV fC A) [⟨a, fC.slot⟩, ⟨a, fV.slot⟩] 1 A.slots.size := by
  refine Law.of_walk (plainFor_of_name (by decide +kernel)) (by decide +kernel) (by decide +kernel) (by decide) (fun _ _ h => by rw [h.1]; rfl) (fun _ U U' hal hh h => ⟨h.1, h.2.1.mv hal hh, h.2.2.1.al hal, h.2.2.2.1.al hal, h.2.2.2.2.1.mv hal hh, h.2.2.2.2.2.1.there hal hh, h.2.2.2.2.2.2⟩) (fun r U U' V V' h1 hal h2 h => Got.mv r U U' V V' h1 hal h2 h) ?_
  intro p e s m args below meth c s₁ X0 hexec hbytes hml hret hlk hnm hown hh0 W hP
  obtain ⟨rfl, hB, f1, f2, hA, s1, hz, l0, l2, hp⟩ := hP
  have c1 : Steps p.tables e below (s₁.setTop (entryFrame m #[.ref a, .ref b] 2)) (s₁.setTop (mkF m 0 #[.val (.ref a), .val (.ref b)] [])) := entry rfl
  have c2 : Steps p.tables e below (s₁.setTop (entryFrame m #[.ref a, .ref b] 2)) (s₁.setTop (mkF m 6 #[.val (.ref a), .val (.ref b)] [.null, .int (Int32.ofNat A.slots.size), .int 0, .ref b, .ref a])) := c1.trans (by
    refine XS.aloadN X0.here hexec rfl (hb hbytes d0) rfl rfl ?_
    refine XS.aloadN X0.here hexec rfl (hb hbytes d1) rfl rfl ?_
    refine iconstV X0.here hexec rfl 0 (hb hbytes d2) (by decide) ?_
    refine XS.aloadN X0.here hexec rfl (hb hbytes d3) rfl rfl ?_
    refine X0.alen hexec (hA.1.mv X0.warmed.alike hh0) rfl rfl (hb hbytes d4) ?_
    refine XS.aconstNull X0.here hexec rfl (hb hbytes d5) ?_
    exact Steps.refl _)
  obtain ⟨v3, T3, X3, E3, g3⟩ := X0.callN hexec (New4.law l a D fV fC b A z 0 A.slots.size) rfl hown (wks W (initW "java/lang/String" 27 New4.yN)) (W New4.tab (by simp only [site, List.mem_cons, List.mem_append, true_or, or_true])) (W := 0) (Nat.le_of_ble_eq_true rfl) (Nat.le_of_ble_eq_true rfl) (Nat.le_refl _) (by show 0 + A.slots.size ≤ A.slots.size; omega) (g := (mkF m 6 #[.val (.ref a), .val (.ref b)] [.null, .int (Int32.ofNat A.slots.size), .int (Int32.ofNat 0), .ref b, .ref a])) rfl (by rw [hml]; rfl) c2 (argsL := [.ref b, .int (Int32.ofNat 0), .int (Int32.ofNat A.slots.size), .null]) (rest := []) rfl rfl (by show 2 * 0 + 0 ≤ _; decide) (hb hbytes d6) (⟨rfl, hB.mv X0.warmed.alike hh0, f1.al X0.warmed.alike, f2.al X0.warmed.alike, hA.mv X0.warmed.alike hh0, s1.there X0.warmed.alike hh0, hz, l0, by omega, l2, fun i hi => by rw [Nat.zero_add]; exact hp i hi⟩)
  have e0 := Got.mv _ s₁ s _ _ hh0.symm (Vm.Alike.refl _) rfl E3
  obtain rfl := e0.1
  have c4 : Steps p.tables e below (s₁.setTop (entryFrame m #[.ref a, .ref b] 2)) (T3.setTop (mkF m 9 #[.val (.ref a), .val (.ref b)] [])) := g3
  exact ⟨T3, none, _, _, _, X3, by simp, rfl, by omega, (fun _ => rfl), e0, fun fs hl => c4.trans (X3.returnOut hexec hret (hb hbytes d9) hl)⟩
theorem pays {l : Launch} {R : Room} {p : Program} {e : Env} {below : List Frame} {s : State} {sargs : Array Value} {len W : Nat} (a : Addr) (D : Cell) (fV fC : Field) (b : Addr) (A : Cell) (z : Int32) (htab : tab.before sargs s = true) (hfr : 4 ≤ R.frames) (hlo : W + 65 ≤ R.locals) :
    Back l R p e below s sargs yN len W (fun A₁ a₁ => A₁.cells + 1 ≤ R.cells ∧ A₁.slots + A.slots.size ≤ R.slots ∧ P a D fV fC b A z a₁ A₁.U) (fun A₁ _ v₁ B₁ => E a D fV fC A v₁ A₁.U B₁.U ∧ B₁.locs = A₁.locs ++ [⟨a, fC.slot⟩, ⟨a, fV.slot⟩] ∧ B₁.cells = A₁.cells + 1 ∧ B₁.slots = A₁.slots + A.slots.size) :=
  (law l a D fV fC b A z).pays htab hfr (by omega)
end New1
end StrChars
namespace StrChars.Road
open Jvm Sem ClassFile Op Lib Jvm.Stand Jvm.Free Jvm.Free.XT
open Jvm.Lib.Cold (StaticIs)
abbrev ST : String := "java/lang/String"
/-- every table word that New1's law asks, flat -/
abbrev words : List Jvm.Cond := [.code New1.yN New1.yB 2 none, .initialized ST, .methodLink ST 27 New4.yN, .instanceMethod New4.yN,
  .code New4.yN New4.yB 6 none, .fieldLink ST 38 ST "COMPACT_STRINGS" "Z", .laysFinal ST ST "value" "[B", .fieldLink ST 9 ST "value" "[B", .laysFinal ST ST "coder" "B", .fieldLink ST 15 ST "coder" "B",
  .methodLink ST 1 Lib.objectInit, .instanceMethod Lib.objectInit, .code Lib.objectInit ⟨#[0xb1]⟩ 1 none, .methodLink ST 177 Cmp3.yN, .static Cmp3.yN, .methodLink ST 47 CodL.yN, .static CodL.yN,
  .code Cmp3.yN Cmp3.yB 6 (some (.array .byte)), .initialized U16, .arrayClass .byte, .methodLink U16 115 Cmp5.yN, .static Cmp5.yN, .code Cmp5.yN Cmp5.yB 7 (some .int), .code CodL.yN CodL.yB 2 (some .byte)]
theorem tab_of {a : Array Value} {s : State} (h : ∀ w ∈ words, w.before a s = true) : New1.tab.before a s = true := by
  have h5 : Cmp5.tab.before a s = true := unparts (wk h (.code Cmp5.yN Cmp5.yB 7 (some .int))) (wks h (.initialized Cmp5.yN.cls :: Cmp5.site))
  have hc : CodL.tab.before a s = true := unparts (wk h (.code CodL.yN CodL.yB 2 (some .byte))) (wks h (.initialized CodL.yN.cls :: CodL.site))
  have q5 : ∀ w ∈ Cmp5.tab :: words, w.before a s = true := fun w hw => (List.mem_cons.mp hw).elim (fun e => e ▸ h5) (h w)
  have h3 : Cmp3.tab.before a s = true := unparts (wk q5 (.code Cmp3.yN Cmp3.yB 6 (some (.array .byte)))) (wks q5 (.initialized Cmp3.yN.cls :: Cmp3.site))
  have q3 : ∀ w ∈ Cmp3.tab :: CodL.tab :: words, w.before a s = true := fun w hw => (List.mem_cons.mp hw).elim (fun e => e ▸ h3) fun hw => (List.mem_cons.mp hw).elim (fun e => e ▸ hc) (h w)
  have h4 : New4.tab.before a s = true := unparts (wk q3 (.code New4.yN New4.yB 6 none)) (wks q3 (.initialized New4.yN.cls :: New4.site))
  have q4 : ∀ w ∈ New4.tab :: words, w.before a s = true := fun w hw => (List.mem_cons.mp hw).elim (fun e => e ▸ h4) (h w)
  exact unparts (wk q4 (.code New1.yN New1.yB 2 none)) (wks q4 (.initialized New1.yN.cls :: New1.site))
/-- the words ride from the start Z to the walk's own state -/
theorem moved {Z s : State} {a0 args : Array Value} (hZ : Z.Warmed39 s.vm) (hw : ∀ d ∈ words, d.before a0 Z = true) : ∀ d ∈ words, d.before args s = true := fun d hd => by
  have q := hw d hd
  have t : ∀ d ∈ words, d = .arrayClass .byte ∨ (d.onTables && d.keepsFace) = true := by decide +kernel
  rcases t d hd with rfl | t
  · exact RoadKit.mvA hZ q
  · exact RoadKit.mv hZ q t
/-- WHAT COMES BACK, over the tables of the start Z: h the heap at the call, h' behind it -/
def Q (Z : State) (x : Addr) (A : Cell) (h : Heap) (v : Option Value) (h' : Heap) (L : List Loc) : Prop := v = none ∧ (∀ y ∈ L, y.base = x) ∧ RoadKit.Keep h h' [x] ∧ h'.size = h.size + 1 ∧ RoadKit.Exa Z h' x ST ∧ RoadKit.Fld Z h' x ST "value" "[B" (.ref h.size) ∧ RoadKit.Fld Z h' x ST "coder" "B" (.int 0) ∧
  (∃ V : Cell, RoadKit.Arr Z h' h.size V .byte ∧ V.vm = .none ∧ Z.vm.findClass "[B" = some V.cls ∧ V.slots.size = A.slots.size ∧ ∀ j, j < A.slots.size → V.slots[j]? = some (.int (lo8 (cv A j)))) ∧
  ∀ (O n d : String) (w : Value), RoadKit.Fld Z h x O n d w → RoadKit.slotOf Z O n d ≠ RoadKit.slotOf Z ST "value" "[B" → RoadKit.slotOf Z O n d ≠ RoadKit.slotOf Z ST "coder" "B" → RoadKit.Fld Z h' x O n d w
/-- **new String(chars) AT A CALL, IN THE ROAD'S FORM**: for specialBack behind newO: x the fresh String, b the char[] with the cell A -/
theorem back {p : Program} {l : Launch} {e : Env} {R : Room} {s : State} {args : Array Value} {below : List Frame} {len W : Nat} {Z : State} {a0 : Array Value} {h : Heap} (hZ : Z.Warmed39 s.vm) (hw : ∀ d ∈ words, d.before a0 Z = true) {kI : Nat} (wi : (Jvm.Cond.instantiable ST kI).before a0 Z = true)
    {x b : Addr} {A : Cell} {z : Int32} {v0 c0 : Value} (E : RoadKit.Exa Z h x ST) (V : RoadKit.Fld Z h x ST "value" "[B" v0) (C : RoadKit.Fld Z h x ST "coder" "B" c0) (K : RoadKit.Arr Z h b A .char) (hty : Typed .char A) (S : RoadKit.Sta Z h ST "COMPACT_STRINGS" "Z" (.int z)) (hz : ¬ z = 0)
    (l0 : 0 < A.slots.size) (l2 : A.slots.size ≤ 536870912) (hp : ∀ i, i < A.slots.size → ¬ 255 < cv A i) (hfr : 4 ≤ R.frames) (hlo : W + 65 ≤ R.locals) :
    Back l R p e below s args New1.yN len W (fun P a => a = #[.ref x, .ref b] ∧ P.U.heap = h ∧ P.cells + 1 ≤ R.cells ∧ P.slots + A.slots.size ≤ R.slots)
      (fun P _ v B => ∃ L, Q Z x A h v B.U.heap L ∧ B.locs = P.locs ++ L ∧ B.cells = P.cells + 1 ∧ B.slots = P.slots + A.slots.size) := by
  intro m meth c P g ig mk a X hg hsize hdg hW hn hp'
  obtain ⟨rfl, rfl, r1, r2⟩ := hp'
  have al : Z.vm.Alike P.U.vm := hZ.alike.trans X.warmed.alike
  obtain ⟨D, cfV, kV, iV, fV, hD, gV, stV, knV, obV, asV, slV⟩ := id V
  obtain ⟨D', cfC, kC, iC, fC, hD', gC, stC, -, -, asC, slC⟩ := id C
  cases hD.symm.trans hD'
  obtain ⟨D2, kD, e1, e2, e3, e4, e5⟩ := id E
  cases hD.symm.trans e1
  obtain ⟨c2, k2, i1, i2, i3, -⟩ := Cond.instantiable_spec wi
  cases e2.symm.trans i1
  cases e3.symm.trans i2
  obtain ⟨kU, u1, u2⟩ := al.2.2 _ _ e3
  have hB : Blank ST x D P.U := ⟨hD, ⟨knV, fun q hq => by rw [hq] at obV; cases obV⟩, by rw [al.findClass]; exact e2, kU, u1, by rw [u2]; exact i3, by rw [u2]; exact e5 i3⟩
  have F1 : Found ST "value" "[B" fV P.U := ⟨SBG.found_only al ⟨cfV, kV, iV, gV⟩, stV⟩
  have F2 : Found ST "coder" "B" fC P.U := ⟨SBG.found_only al ⟨cfC, kC, iC, gC⟩, stC⟩
  have hA : Ch b A P.U := ⟨⟨K.1, State.isArrayOf_alike al K.2.1, K.2.2, by omega⟩, hty⟩
  have hS : StaticIs P.U ST "COMPACT_STRINGS" "Z" (.int z) := by
    obtain ⟨cfS, iS, kS, fS, st, cS, t1, t2, t3, t4, t5, t6, t7⟩ := S
    exact StaticIs.there (s := { Z with heap := P.U.heap }) ⟨cfS, iS, kS, fS, st, cS, t1, t2, t3, t4, t5, (fun q => by rw [q] at t6; cases t6), t7⟩ al rfl
  obtain ⟨v, B, X', ⟨⟨hv, E', V', q1, q2, q3, q4, q5, q6, q7, q8, q9, q10, q11⟩, hl, hc, hs⟩, st⟩ := New1.pays x D fV fC b A z (tab_of (moved hZ hw)) hfr hlo m meth c P g ig mk _ X hg hsize hdg hW hn ⟨r1, r2, rfl, hB, F1, F2, hA, hS, hz, l0, l2, hp⟩
  have al' : Z.vm.Alike B.U.vm := hZ.alike.trans X'.warmed.alike
  have hsz : E'.slots.size = D.slots.size := by
    obtain ⟨-, -, -, kB, w1, w2, w3⟩ := q1
    obtain ⟨kB', y1, y2⟩ := al'.2.2 _ _ e3
    rw [q2.2.1] at w1
    cases w1.symm.trans y1
    rw [w3, e5 i3, y2]
  refine ⟨v, B, X', ⟨_, ⟨hv, ?_, ⟨by omega, fun y cy hy hn' => q10 y cy (by simpa using hn') hy, fun y cy hy => ?_⟩, q11, ⟨E', _, q1.1, by rw [q2.2.1]; exact e2, by rw [q2.2.1]; exact e3, by rw [q2.1]; exact obV, fun _ => by rw [hsz]; exact e5 i3⟩,
    ⟨E', cfV, kV, iV, fV, q1.1, gV, stV, by rw [q2.1]; exact knV, by rw [q2.1]; exact obV, by rw [q2.2.1]; exact asV, q3⟩, ⟨E', cfC, kC, iC, fC, q1.1, gC, stC, by rw [q2.1]; exact knV, by rw [q2.1]; exact obV, by rw [q2.2.1]; exact asC, q4⟩,
    ⟨V', ⟨q5.1, State.isArrayOf_alike al'.symm q5.2.1, q5.2.2.1⟩, q6, by rw [← al'.findClass]; exact q7, q8, fun j hj => by have := q9 j hj; rwa [Nat.zero_add] at this⟩, fun O n d w F n1 n2 => ?_⟩, hl, hc, hs⟩, st⟩
  · intro y hy
    simp only [List.mem_cons, List.not_mem_nil, or_false] at hy
    rcases hy with rfl | rfl <;> rfl
  · by_cases q : y = x
    · subst q
      cases hD.symm.trans hy
      exact ⟨E', q1.1, q2.2.1, q2.1, hsz⟩
    · exact ⟨cy, q10 y cy q hy, rfl, rfl, rfl⟩
  · obtain ⟨D3, cf, k, i, f, g1, g2, g3, g4, g5, g6, g7⟩ := F
    cases hD.symm.trans g1
    simp only [RoadKit.slotOf, g2, gV, gC, Option.map_some, Option.getD_some] at n1 n2
    exact ⟨E', cf, k, i, f, q1.1, g2, g3, by rw [q2.1]; exact g4, by rw [q2.1]; exact g5, by rw [q2.2.1]; exact g6, by rw [q2.2.2 f.slot (by simp [n1, n2])]; exact g7⟩
end StrChars.Road
namespace StrChars.Road
open Jvm Sem ClassFile Op Lib Jvm.Stand Jvm.Free Jvm.Free.XT
/-- WHAT COMES BACK, the byte[] as a list of values -/
def QA (Z : State) (x : Addr) (zn : Int32) (cs : List Int32) (h : Heap) (v : Option Value) (h' : Heap) (L : List Loc) : Prop := v = none ∧ (∀ y ∈ L, y.base = x) ∧ RoadKit.Keep h h' [x] ∧ h'.size = h.size + 1 ∧ RoadKit.Exa Z h' x ST ∧ RoadKit.Fld Z h' x ST "value" "[B" (.ref h.size) ∧ RoadKit.Fld Z h' x ST "coder" "B" (.int 0) ∧
  (∃ kb, Z.vm.findClass "[B" = some kb ∧ RoadKit.Arv Z h' h.size kb .byte zn (cs.map fun c => .int (lo8 c)) (.int 0)) ∧
  ∀ (O n d : String) (w : Value), RoadKit.Fld Z h x O n d w → RoadKit.slotOf Z O n d ≠ RoadKit.slotOf Z ST "value" "[B" → RoadKit.slotOf Z O n d ≠ RoadKit.slotOf Z ST "coder" "B" → RoadKit.Fld Z h' x O n d w
/-- **new String(chars) AT A CALL, THE ARRAYS AS LISTS**: the char[] at b holds cs, not empty, no char above 255 -/
theorem backArv {p : Program} {l : Launch} {e : Env} {R : Room} {s : State} {args : Array Value} {below : List Frame} {len W : Nat} {Z : State} {a0 : Array Value} {h : Heap} (hZ : Z.Warmed39 s.vm) (hw : ∀ d ∈ words, d.before a0 Z = true) {kI : Nat} (wi : (Jvm.Cond.instantiable ST kI).before a0 Z = true)
    {x b : Addr} {k : ClassId} {zn z : Int32} {cs : List Int32} {dv v0 c0 : Value} (E : RoadKit.Exa Z h x ST) (V : RoadKit.Fld Z h x ST "value" "[B" v0) (C : RoadKit.Fld Z h x ST "coder" "B" c0) (K : RoadKit.Arv Z h b k .char zn (cs.map Value.int) dv) (S : RoadKit.Sta Z h ST "COMPACT_STRINGS" "Z" (.int z)) (hz : ¬ z = 0)
    (hlen : zn.toNatClampNeg = cs.length) (h0 : 0 < cs.length) (hbig : cs.length ≤ 536870912) (hall : ∀ c ∈ cs, ¬ 255 < c) (hfr : 4 ≤ R.frames) (hlo : W + 65 ≤ R.locals) :
    Back l R p e below s args New1.yN len W (fun P a => a = #[.ref x, .ref b] ∧ P.U.heap = h ∧ P.cells + 1 ≤ R.cells ∧ P.slots + cs.length ≤ R.slots)
      (fun P _ v B => ∃ L, QA Z x zn cs h v B.U.heap L ∧ B.locs = P.locs ++ L ∧ B.cells = P.cells + 1 ∧ B.slots = P.slots + cs.length) := by
  obtain ⟨A, K1, K2, K3, K4, K5, K6⟩ := K
  have e : A.slots.size = cs.length := K3.trans hlen
  have hat : ∀ (i : Nat) (hi : i < cs.length), A.slots[i]? = some (.int cs[i]) := fun i hi => by rw [K5 i (by omega)]; simp [List.getD_eq_getElem?_getD, hi]
  have hcv : ∀ (i : Nat) (hi : i < cs.length), cv A i = cs[i] := fun i hi => by unfold cv; rw [hat i hi]
  have hty : Typed .char A := fun i v hv => by
    have hi : i < A.slots.size := (Array.getElem?_eq_some_iff.mp hv).1
    have q := K5 i hi
    rw [hv] at q
    rw [Option.some.inj q]
    exact K6 i hi
  refine Back.mono (back hZ hw wi E V C K1 hty S hz (by omega) (by omega) (fun i hi => by rw [hcv i (by omega)]; exact hall _ (List.getElem_mem _)) hfr hlo) (fun P a hp => ⟨hp.1, hp.2.1, hp.2.2.1, by rw [e]; exact hp.2.2.2⟩) (fun P a v B hp hq => ?_)
  obtain ⟨L, ⟨q1, q2, q3, q4, q5, q6, q7, ⟨V', v1, v2, v3, v4, v5⟩, q9⟩, hl, hc, hs⟩ := hq
  refine ⟨L, ⟨q1, q2, q3, q4, q5, q6, q7, ⟨V'.cls, v3, V', v1, rfl, by rw [v4, e, hlen], K4, fun i hi => ?_, fun i hi => ?_⟩, q9⟩, hl, hc, by rw [hs, e]⟩
  · have hi' : i < cs.length := by omega
    rw [v5 i (by omega), hcv i hi']; simp [List.getD_eq_getElem?_getD, hi']
  · have hi' : i < cs.length := by omega
    simp only [List.getD_eq_getElem?_getD, List.getElem?_map, List.getElem?_eq_getElem hi', Option.map_some, Option.getD_some]
    exact fits_lo8 _
end StrChars.Road
namespace StrChars.Road
open Jvm Sem ClassFile Op Lib Jvm.Stand Jvm.Free Jvm.Free.XT
/-- WHAT COMES BACK, in the writer's own shape -/
def QV (Z : State) (x : Addr) (N : Int32) (bs : List Int32) (h : Heap) (n0 : Nat) (v : Option Value) (h' : Heap) (L : List Loc) : Prop := v = none ∧ RoadKit.Fr n0 L ∧ RoadKit.Keep h h' [x] ∧ RoadKit.Exa Z h' x ST ∧ RoadKit.Fld Z h' x ST "coder" "B" (.int 0) ∧
  ∃ (t : Addr) (kb : ClassId), n0 ≤ t ∧ h.size ≤ t ∧ ¬ t = x ∧ RoadKit.Fld Z h' x ST "value" "[B" (.ref t) ∧ RoadKit.Arv Z h' t kb .byte N (bs.map Value.int) (.int 0)
/-- **new String(chars) AT A CALL, FOR THE WRITER**: a char[] of n known ints, each 0 to 255 -/
theorem backV {p : Program} {l : Launch} {e : Env} {R : Room} {s : State} {args : Array Value} {below : List Frame} {len W : Nat} {Z : State} {a0 : Array Value} {h : Heap} (hZ : Z.Warmed39 s.vm) (hw : ∀ d ∈ words, d.before a0 Z = true) {kI : Nat} (wi : (Jvm.Cond.instantiable ST kI).before a0 Z = true)
    {x b : Addr} {kC : ClassId} {cs bs : List Int32} {d v0 c0 : Value} {z N : Int32} {n n0 : Nat} (hx0 : n0 ≤ x) (hh0 : n0 ≤ h.size) (E : RoadKit.Exa Z h x ST) (V : RoadKit.Fld Z h x ST "value" "[B" v0) (C : RoadKit.Fld Z h x ST "coder" "B" c0) (K : RoadKit.Arv Z h b kC .char N (cs.map Value.int) d) (S : RoadKit.Sta Z h ST "COMPACT_STRINGS" "Z" (.int z)) (hz : ¬ z = 0)
    (hn : cs.length = n) (hN : N = Int32.ofNat n) (l0 : 0 < n) (l2 : n ≤ 4000) (hp : ∀ c ∈ cs, ¬ c < 0 ∧ ¬ (255 : Int32) < c) (hb : bs = cs.map (fun c => c.toInt8.toInt32)) (hfr : 4 ≤ R.frames) (hlo : W + 65 ≤ R.locals) :
    Back l R p e below s args (⟨"java/lang/String", "<init>", "([C)V"⟩ : MethodName) len W (fun P a => a = #[.ref x, .ref b] ∧ P.U.heap = h ∧ P.cells + 1 ≤ R.cells ∧ P.slots + n ≤ R.slots)
      (fun P _ v B => ∃ L, QV Z x N bs h n0 v B.U.heap L ∧ B.locs = P.locs ++ L ∧ B.cells = P.cells + 1 ∧ B.slots = P.slots + n) := by
  subst hn hN hb
  refine Back.mono (backArv hZ hw wi E V C K S hz (n32 (by omega)) l0 (by omega) (fun c hc => (hp c hc).2) hfr hlo) (fun P a hp => hp) (fun P a v B hp hq => ?_)
  obtain ⟨L, ⟨q1, q2, q3, q4, q5, q6, q7, ⟨kb, v1, v2⟩, q9⟩, hl, hc, hs⟩ := hq
  exact ⟨L, ⟨q1, fun y hy => by rw [q2 y hy]; exact hx0, q3, q5, q7, h.size, kb, hh0, Nat.le_refl _, Nat.ne_of_gt E.lt, q6, by rw [List.map_map]; exact v2⟩, hl, hc, hs⟩
end StrChars.Road
end Jvm.Pilot.@@N@@
namespace Jvm.Pilot.@@N@@
open Jvm Jvm.ClassFile Sem Op Lib Jvm.Free Jvm.Stand Jvm.LawKit Jvm.RoadKit Bundle Jvm.Pilot.@@N@@.Jvm.D
theorem own_cat {v : Value} (h : v.isRef = true) : v.category = 1 := by cases v <;> first | rfl | (simp [Value.isRef] at h)
theorem own_cell {h h' : Heap} {a : Addr} {c : Cell} (e : h' = h) (q : h[a]? = some c) : h'[a]? = some c := by rw [e]; exact q
theorem own_cr (a : Addr) : (Value.ref a).category = 1 := rfl
theorem own_ci (a : Int32) : (Value.int a).category = 1 := rfl
theorem own_cj (a : Int64) : (Value.long a).category = 2 := rfl
theorem own_cn : Value.null.category = 1 := rfl
theorem own_nar {v : Value} {t : FieldType} (ht : t.isReference = true) (h : v.isRef = true) : narrow t v = v := by
  rcases ref_cases h with rfl | ⟨a, rfl⟩ <;> cases t <;> first | rfl | (simp [FieldType.isReference] at ht)
theorem own_fits {v : Value} {t : FieldType} (ht : t.isReference = true) (h : v.isRef = true) : fits t v = true := by
  rcases ref_cases h with rfl | ⟨a, rfl⟩ <;> cases t <;> first | rfl | (simp [FieldType.isReference] at ht)
theorem own_store {l l' : Array Slot} {i : Nat} {v : Value} {o : Slot} (hold : l[i]? = some o) (ho : o = .unset ∨ ∃ w, o = .val w ∧ w.category = 1) (hv : v.category = 1) (e : l.setIfInBounds i (.val v) = l') : storeLocals l i v = some l' := by
  rw [Jvm.Free.XS.store1 hold ho hv, e]
def Glob (Z : State) (a0 : Array Value) (G1 : Int32) : Prop := (∀ d ∈ tables_1, d.before a0 Z = true) ∧ (Sta Z Z.heap "java/lang/String" "COMPACT_STRINGS" "Z" (.int G1)) ∧ (¬ (G1 = (0 : Int32)))
theorem own_hws {Z : State} {a0 : Array Value} (hw : ∀ d ∈ tables_1, d.before a0 Z = true) : ∀ d ∈ StrChars.Road.words, d.before a0 Z = true := fun d hd => hw d ((by decide +kernel : ∀ d ∈ StrChars.Road.words, d ∈ tables_1) d hd)
theorem own_char255 (x : Int32) : ¬ nar .char ((x &&& (255 : Int32)).toUInt32.toUInt16.toUInt32.toInt32) < 0 ∧ ¬ (255 : Int32) < nar .char ((x &&& (255 : Int32)).toUInt32.toUInt16.toUInt32.toInt32) := by
  have t : ∀ k : Fin 256, ¬ nar .char ((Int32.ofNat k.val).toUInt32.toUInt16.toUInt32.toInt32) < 0 ∧ ¬ (255 : Int32) < nar .char ((Int32.ofNat k.val).toUInt32.toUInt16.toUInt32.toInt32) := by decide +kernel
  have h : (x &&& 255).toBitVec.toNat < 256 := by
    simp only [Int32.toBitVec_and, BitVec.toNat_and]
    exact Nat.lt_succ_of_le Nat.and_le_right
  have e : (x &&& 255) = Int32.ofNat (x &&& 255).toBitVec.toNat := by
    apply Int32.toBitVec_inj.mp
    show _ = BitVec.ofNat 32 _
    rw [BitVec.ofNat_toNat]; simp
  rw [e]
  exact t ⟨_, h⟩
def own_EL : List (String × Nat) := [("java/lang/String", 7)]
theorem own_ew {Z : State} {a0 : Array Value} (hw : ∀ d ∈ tables_1, d.before a0 Z = true) : EW Z a0 own_EL := by
  have W : ∀ (i : Nat) {d : Jvm.Cond}, tables_1[i]? = some d → d.before a0 Z = true := fun i d h => hw d (List.mem_of_getElem? h)
  exact EW.cons (W 102 rfl) (by decide) (EW.nil)
theorem own_sa {Z : State} {a0 : Array Value} (hw : ∀ d ∈ tables_1, d.before a0 Z = true) : ∀ a ∈ Bundle.stringAtoms, a.before a0 Z = true := fun d hd => hw d ((by decide +kernel : ∀ d ∈ Bundle.stringAtoms, d ∈ tables_1) d hd)
theorem own_mono {s t : State} {o : Outcome} {L : List Loc} {k n k' n' : Nat} (h : ReturnedEndW s o t L k n) (hk : k ≤ k') (hn : n ≤ n') : ReturnedEndW s o t L k' n' := ⟨h.1, h.2.1, h.2.2.1, h.2.2.2.mono hk hn⟩
theorem own_safeS {Z : State} {EL : List (String × Nat)} {vm : Vm} {h : Heap} {x : Addr} (hal : Z.vm.Alike vm) (E : Exa Z h x "java/lang/String") (F0 : Fld Z h x "java/lang/String" "value" "[B" .null) : Safe Z EL vm h x := fun B => by
  obtain ⟨p, hp, u, a, hb, q, hq, F, e | e⟩ := B
  · subst e
    obtain ⟨cell, cf, k, i, f, h1, h2, -, -, -, -, h7⟩ := F0
    cases (show h[q.sa]? = some q.sC from F.ha).symm.trans h1
    obtain ⟨cS, ⟨⟨-, -, -, ⟨c1, k1, i1, f1, -⟩, -, -, -, v1, -⟩, -⟩, -⟩ := F
    obtain ⟨k3, e3, -⟩ := State.fieldFound?_setVm (s := Z) hal h2
    have e4 := (show (Wst Z vm h).fieldFound? _ _ _ = _ from e3).symm.trans f1
    simp only [Option.some.injEq, Prod.mk.injEq] at e4
    rw [← e4.2.2.2, h7] at v1
    cases v1
  · subst e
    obtain ⟨cell, k, e1, e2, e3, -, -⟩ := E
    cases (show h[q.sd]? = some q.SA from F.hd).symm.trans e1
    obtain ⟨cS, -, -, f, -⟩ := F
    have f' : vm.findClass "[B" = some q.SA.cls := f
    rw [hal.findClass] at f'
    obtain ⟨k1, q1, q2⟩ := Vm.findClass_spec f'
    obtain ⟨k2, q3, q4⟩ := Vm.findClass_spec e2
    cases q1.symm.trans q3
    exact absurd (q2.symm.trans q4) (by decide)
def own_ok (p : Int32) : Prop := nar .char p = p ∧ ¬ p < 0 ∧ ¬ (255 : Int32) < p
theorem own_okc (x : Int32) : own_ok ((x &&& (255 : Int32)).toUInt32.toUInt16.toUInt32.toInt32) := by
  have e : nar .char ((x &&& (255 : Int32)).toUInt32.toUInt16.toUInt32.toInt32) = ((x &&& (255 : Int32)).toUInt32.toUInt16.toUInt32.toInt32) := by simp only [nar, UInt32.toUInt32_toInt32, UInt16.toUInt16_toUInt32]
  have h := own_char255 x
  rw [e] at h
  exact ⟨e, h⟩
theorem dx_jdk_42_method_149_code_0 : decode jdk_42_method_149_code 0 = .ok (.aload_n 0, 1) := by decide +kernel
theorem dx_jdk_42_method_149_code_1 : decode jdk_42_method_149_code 1 = .ok (.invokespecial 1, 3) := by decide +kernel
theorem dx_jdk_42_method_149_code_4 : decode jdk_42_method_149_code 4 = .ok (.iload_n 3, 1) := by decide +kernel
theorem dx_jdk_42_method_149_code_5 : decode jdk_42_method_149_code 5 = .ok (.ifCond .ne 22, 3) := by decide +kernel
theorem dx_jdk_42_method_149_code_8 : decode jdk_42_method_149_code 8 = .ok (.aload_n 0, 1) := by decide +kernel
theorem dx_jdk_42_method_149_code_9 : decode jdk_42_method_149_code 9 = .ok (.ldc 7, 2) := by decide +kernel
theorem dx_jdk_42_method_149_code_11 : decode jdk_42_method_149_code 11 = .ok (.getfield 9, 3) := by decide +kernel
theorem dx_jdk_42_method_149_code_14 : decode jdk_42_method_149_code 14 = .ok (.putfield 9, 3) := by decide +kernel
theorem dx_jdk_42_method_149_code_17 : decode jdk_42_method_149_code 17 = .ok (.aload_n 0, 1) := by decide +kernel
theorem dx_jdk_42_method_149_code_18 : decode jdk_42_method_149_code 18 = .ok (.ldc 7, 2) := by decide +kernel
theorem dx_jdk_42_method_149_code_20 : decode jdk_42_method_149_code 20 = .ok (.getfield 15, 3) := by decide +kernel
theorem dx_jdk_42_method_149_code_23 : decode jdk_42_method_149_code 23 = .ok (.putfield 15, 3) := by decide +kernel
theorem dx_jdk_42_method_149_code_26 : decode jdk_42_method_149_code 26 = .ok (.return_, 1) := by decide +kernel
def Qsvz (Z : State) (G1 : Int32) (a1 : Addr) (b : Addr) (h0 : Heap) (n0 : Nat) (v : Option Value) (h : Heap) (L : List Loc) : Prop := ∃ t : Addr, ∃ kb : ClassId, v = none ∧ Fr n0 L ∧ Keep h0 h [a1] ∧ Exa Z h a1 "java/lang/String" ∧ Fld Z h a1 "java/lang/String" "coder" "B" (.int 0) ∧ Fld Z h a1 "java/lang/String" "value" "[B" (.ref t) ∧ Arv Z h t kb .byte (0 : Int32) ([]) (.int 0)
theorem ef_jdk_42_method_149_code_RRIIN (m : MethodId) (x0 : Addr) (x1 : Addr) (x2 : Int32) (x3 : Int32) : entryFrame m #[(.ref x0), (.ref x1), (.int x2), (.int x3), .null] 6 = mkF m 0 #[.val (.ref x0), .val (.ref x1), .val (.int x2), .val (.int x3), .val .null, .unset] [] := by first | (simp [entryFrame, mkF, argsToLocals, Value.category]; done) | rfl
abbrev y0 : MethodName := ⟨"java/lang/String", "<init>", "([CIILjava/lang/Void;)V"⟩
theorem pn_java_lang_String : plainName "java/lang/String" = true := by first | (simp [plainName, overriddenIn]; done) | decide +kernel
set_option maxRecDepth 65536 in
set_option maxHeartbeats 40000000 in
theorem rmsvz (l : Launch) (Z : State) (a0 : Array Value) (G1 : Int32) (hG : Glob Z a0 G1) (ws : List Jvm.Cond) (a1 : Addr) (b : Addr) (h0 : Heap) (n0 : Nat) (Z0 : n0 ≤ h0.size) (X00 : Old Z n0 h0) (E_a1 : Exa Z h0 a1 "java/lang/String") (g_a1 : n0 ≤ a1) (F_value_a1 : Fld Z h0 a1 "java/lang/String" "value" "[B" .null) (F_coder_a1 : Fld Z h0 a1 "java/lang/String" "coder" "B" (.int (0 : Int32))) :
    MetFree l y0 (head1 (Jvm.Cond.code y0 jdk_42_method_149_code 6 none :: ws) ({ frames := 1, cells := 4, slots := 8, locals := 12 } : Room)) (fun a U => a = #[(.ref a1), (.ref b), (.int (0 : Int32)), (.int (0 : Int32)), .null] ∧ Z.Warmed39 U.vm ∧ U.heap = h0 ∧ CHv Z own_EL U.vm h0) (fun _ _ _ _ _ => True) (fun _ U o U' => ∃ v L, o = .returned v ∧ Qsvz Z G1 a1 b h0 n0 v U'.heap L ∧ CHr Z own_EL U.vm U.heap U'.vm U'.heap ∧ ReturnedEndW U o U' L ({ frames := 1, cells := 4, slots := 8, locals := 12 } : Room).cells ({ frames := 1, cells := 4, slots := 8, locals := 12 } : Room).slots) := by
  obtain ⟨hw, O_cs, P_cs⟩ := id hG
  have W : ∀ (i : Nat) {d : Jvm.Cond}, tables_1[i]? = some d → d.before a0 Z = true := fun i d h => hw d (List.mem_of_getElem? h)
  refine MetFree.of_bodySF (plainFor_of_name pn_java_lang_String) hisR ?_
  intro p e s m args below meth c s₁ Bd hml0 hP hK
  obtain ⟨rfl, hZ, hh, hCH⟩ := hP
  have hx := Bd.exec
  have hby := Bd.bytes
  have hml : c.maxLocals = 6 := hml0
  have hown : s.vm.findClass "java/lang/String" = some m.cls := findClass_of_methodNamed Bd.named
  have hnm := (name_of_methodNamed Bd.named Bd.method).1
  have X0 : Stand p l e ({ frames := 1, cells := 4, slots := 8, locals := 12 } : Room) (s.setVm s.vm) m #[(.ref a1), (.ref b), (.int (0 : Int32)), (.int (0 : Int32)), .null] below meth c s₁ [] 0 0 := Stand.of_body Bd
  have e0 : s₁.heap = h0 := by rw [← hh, Bd.state]; rfl
  have hS0 : s.Since s.vm h0.size := (State.WarmedH.refl s).since _
  have hk0 : h0.size ≤ h0.size := Nat.le_refl _
  have R0 : CHr Z own_EL s.vm h0 s.vm h0 := CHr.refl hCH
  have hEL := own_ew hw
  have N0 := Fr.nil n0
  have pre0 : ∀ t, Steps p.tables e below (s₁.setTop (mkF m 0 #[.val (.ref a1), .val (.ref b), .val (.int (0 : Int32)), .val (.int (0 : Int32)), .val .null, .unset] [])) t → Steps p.tables e below (s₁.setTop (entryFrame m #[(.ref a1), (.ref b), (.int (0 : Int32)), (.int (0 : Int32)), .null] 6)) t := fun t kk_ => castTop (ef_jdk_42_method_149_code_RRIIN m a1 b (0 : Int32) (0 : Int32)) kk_
  have sf0_a1 : Safe Z own_EL s.vm h0 a1 := own_safeS hZ.alike E_a1 F_value_a1
  obtain ⟨T1, X1, e1, st1⟩ := initO X0 hx hZ hown (W 15 rfl) (W 16 rfl) (W 17 rfl) e0 (g := (mkF m 1 #[.val (.ref a1), .val (.ref b), .val (.int (0 : Int32)), .val (.int (0 : Int32)), .val .null, .unset] [(.ref a1)])) rfl (by rw [hml]; rfl) rfl (hb hby dx_jdk_42_method_149_code_1) (by decide) (W := 0) (by show 2 * 0 + _ ≤ _; exact Nat.le_of_eq rfl) (by decide)
  obtain ⟨a2, T2, h2, k2, b2, kb2, X2, e2, E2, hS2, hk2, hZ2, hw2, Ea2, Ca2, Va2, Ba2, la2, lb2, hC2, -, hne2, st2⟩ := ldcCH X1 hx hZ hown (W 102 rfl) (own_sa hw) e1 hS0 hk0 hEL (by decide) R0.1 (vs := []) (z := (0 : Int32)) ⟨by decide, by decide +kernel⟩ (by decide) (by decide) (g := (mkF m 9 #[.val (.ref a1), .val (.ref b), .val (.int (0 : Int32)), .val (.int (0 : Int32)), .val .null, .unset] [(.ref a1)])) rfl (hb hby dx_jdk_42_method_149_code_9) (n := 0) (by decide) (by decide) (by decide) (by decide)
  have Z3 : n0 ≤ h2.size := Nat.le_trans Z0 E2.1
  have K0_3 : Keep h0 h2 [a1] := (Keep.refl h0 [a1]).ext E2
  have O3 : Old Z n0 h2 := X00.ext E2
  have sf2_a1 : Safe Z own_EL T2.vm h2 a1 := hC2.safe E_a1.lt sf0_a1
  have Rb2 : CHr Z own_EL s.vm h0 T2.vm h2 := R0.trans hC2
  have ns2_a1 := hne2 _ sf2_a1
  obtain ⟨T4, X4, e4, st4⟩ := getF X2 hx hZ2 hw2 (host := "") (Or.inl (W 32 rfl)) Via.refl e2 Va2 (g := (mkF m 11 #[.val (.ref a1), .val (.ref b), .val (.int (0 : Int32)), .val (.int (0 : Int32)), .val .null, .unset] [(.ref a2), (.ref a1)])) rfl rfl (hb hby dx_jdk_42_method_149_code_11)
  have f5 := (E_a1.ext E2)
  have f6 := (F_value_a1.ext E2)
  obtain ⟨T7, h7, X7, e7, W7, st7⟩ := putF X4 hx hZ2 hw2 (host := "") (Or.inl (W 32 rfl)) Via.refl e4 f6 f5 (Or.inr ⟨(W 33 rfl), rfl, hnm⟩) (W 5 rfl) (ty := (.array .byte)) (by decide) rfl rfl (g := (mkF m 14 #[.val (.ref a1), .val (.ref b), .val (.int (0 : Int32)), .val (.int (0 : Int32)), .val .null, .unset] [(.ref b2), (.ref a1)])) rfl rfl (hb hby dx_jdk_42_method_149_code_14)
  have Fw7 := f6.same W7
  have Z8 : n0 ≤ h7.size := Nat.le_trans Z3 (Keep.of_wr W7).1
  have K0_8 : Keep h0 h7 [a1] := K0_3.wr W7 (Or.inl (List.mem_of_getElem? (i := 0) rfl))
  have O8 : Old Z n0 h7 := O3.wr W7 g_a1
  have R8 : CHr Z own_EL s.vm h0 T2.vm h7 := Rb2.trans (CHr.wr W7 sf2_a1 Rb2.1)
  have hk8 : k2 ≤ h7.size := Nat.le_trans hk2 (Keep.of_wr W7).1
  have sf8_a1 : Safe Z own_EL T2.vm h7 a1 := Safe.wr W7 sf2_a1 Rb2.1 sf2_a1
  have N7 := Fr.snoc X7 N0 g_a1
  obtain ⟨a9, T9, h9, k9, b9, kb9, X9, e9, E9, hS9, hk9, hZ9, hw9, Ea9, Ca9, Va9, Ba9, la9, lb9, hC9, -, hne9, st9⟩ := ldcCH X7 hx hZ2 hw2 (W 102 rfl) (own_sa hw) e7 hS2 hk8 hEL (by decide) R8.1 (vs := []) (z := (0 : Int32)) ⟨by decide, by decide +kernel⟩ (by decide) (by decide) (g := (mkF m 18 #[.val (.ref a1), .val (.ref b), .val (.int (0 : Int32)), .val (.int (0 : Int32)), .val .null, .unset] [(.ref a1)])) rfl (hb hby dx_jdk_42_method_149_code_18) (n := 0) (by decide) (by decide) (by decide) (by decide)
  have Z10 : n0 ≤ h9.size := Nat.le_trans Z8 E9.1
  have K0_10 : Keep h0 h9 [a1] := K0_8.ext E9
  have O10 : Old Z n0 h9 := O8.ext E9
  have f11 := (f5.wr W7)
  have sf9_a1 : Safe Z own_EL T9.vm h9 a1 := hC9.safe f11.lt sf8_a1
  have Rb9 : CHr Z own_EL s.vm h0 T9.vm h9 := R8.trans hC9
  have ns9_a1 := hne9 _ sf9_a1
  obtain ⟨T12, X12, e12, st12⟩ := getF X9 hx hZ9 hw9 (host := "") (Or.inl (W 30 rfl)) Via.refl e9 Ca9 (g := (mkF m 20 #[.val (.ref a1), .val (.ref b), .val (.int (0 : Int32)), .val (.int (0 : Int32)), .val .null, .unset] [(.ref a9), (.ref a1)])) rfl rfl (hb hby dx_jdk_42_method_149_code_20)
  have f13 := (f11.ext E9)
  have f14 := (((F_coder_a1.ext E2).other W7 (Or.inr (slot_ne (Or.inr (W 31 rfl)) (Or.inr (W 33 rfl)) (by decide) (t := .byte) (t' := (.array .byte)) (by decide) (by decide)))).ext E9)
  obtain ⟨T15, h15, X15, e15, W15, st15⟩ := putF X12 hx hZ9 hw9 (host := "") (Or.inl (W 30 rfl)) Via.refl e12 f14 f13 (Or.inr ⟨(W 31 rfl), rfl, hnm⟩) (W 5 rfl) (ty := .byte) (by decide) rfl rfl (g := (mkF m 23 #[.val (.ref a1), .val (.ref b), .val (.int (0 : Int32)), .val (.int (0 : Int32)), .val .null, .unset] [(.int 0), (.ref a1)])) rfl rfl (hb hby dx_jdk_42_method_149_code_23)
  have Fw15 := f14.same W15
  have Z16 : n0 ≤ h15.size := Nat.le_trans Z10 (Keep.of_wr W15).1
  have K0_16 : Keep h0 h15 [a1] := K0_10.wr W15 (Or.inl (List.mem_of_getElem? (i := 0) rfl))
  have O16 : Old Z n0 h15 := O10.wr W15 g_a1
  have R16 : CHr Z own_EL s.vm h0 T9.vm h15 := Rb9.trans (CHr.wr W15 sf9_a1 Rb9.1)
  have hk16 : k9 ≤ h15.size := Nat.le_trans hk9 (Keep.of_wr W15).1
  have sf16_a1 : Safe Z own_EL T9.vm h15 a1 := Safe.wr W15 sf9_a1 Rb9.1 sf9_a1
  have N15 := Fr.snoc X15 N7 g_a1
  have f17 := (f13.wr W15)
  have f18 := ((Fw7.ext E9).other W15 (Or.inr (slot_ne (Or.inr (W 33 rfl)) (Or.inr (W 31 rfl)) (by decide) (t := (.array .byte)) (t' := .byte) (by decide) (by decide))))
  have f19 := (((Ba2.other W7 (Ne.symm ns2_a1.2)).ext E9).other W15 (Ne.symm ns2_a1.2))
  obtain ⟨fs, hr, hrun, hended, hend⟩ := Jvm.Stand.leaveW (v := none) X15 hS9 (by rw [e15]; exact hk16) (fun _ => rfl)
  have hFin := R16.trans (CHv.at X15 hZ9 hEL R16.1)
  refine ⟨_, _, pre0 _ ?_, hrun, hended, _, _, rfl, ?_, ?_, own_mono hend (Nat.le_of_ble_eq_true rfl) (Nat.le_of_ble_eq_true rfl)⟩
  · show Steps p.tables e below (s₁.setTop (mkF m 0 #[.val (.ref a1), .val (.ref b), .val (.int (0 : Int32)), .val (.int (0 : Int32)), .val .null, .unset] [])) _
    refine XS.aloadN X0.here hx rfl (hb hby dx_jdk_42_method_149_code_0) rfl rfl ?_
    refine st1 _ ?_
    show Steps p.tables e below (T1.setTop (mkF m 4 #[.val (.ref a1), .val (.ref b), .val (.int (0 : Int32)), .val (.int (0 : Int32)), .val .null, .unset] [])) _
    refine XS.iloadN X1.here hx rfl (hb hby dx_jdk_42_method_149_code_4) rfl ?_
    refine XS.ifNo X1.here hx rfl (hb hby dx_jdk_42_method_149_code_5) rfl ((if0 _ _).trans (teq (by decide : (0 : Int32) = (0 : Int32))).2) ?_
    refine XS.aloadN X1.here hx rfl (hb hby dx_jdk_42_method_149_code_8) rfl rfl ?_
    refine st2 _ ?_
    show Steps p.tables e below (T2.setTop (mkF m 11 #[.val (.ref a1), .val (.ref b), .val (.int (0 : Int32)), .val (.int (0 : Int32)), .val .null, .unset] [(.ref a2), (.ref a1)])) _
    refine st4 _ ?_
    show Steps p.tables e below (T4.setTop (mkF m 14 #[.val (.ref a1), .val (.ref b), .val (.int (0 : Int32)), .val (.int (0 : Int32)), .val .null, .unset] [(.ref b2), (.ref a1)])) _
    refine st7 _ ?_
    show Steps p.tables e below (T7.setTop (mkF m 17 #[.val (.ref a1), .val (.ref b), .val (.int (0 : Int32)), .val (.int (0 : Int32)), .val .null, .unset] [])) _
    refine XS.aloadN X7.here hx rfl (hb hby dx_jdk_42_method_149_code_17) rfl rfl ?_
    refine st9 _ ?_
    show Steps p.tables e below (T9.setTop (mkF m 20 #[.val (.ref a1), .val (.ref b), .val (.int (0 : Int32)), .val (.int (0 : Int32)), .val .null, .unset] [(.ref a9), (.ref a1)])) _
    refine st12 _ ?_
    show Steps p.tables e below (T12.setTop (mkF m 23 #[.val (.ref a1), .val (.ref b), .val (.int (0 : Int32)), .val (.int (0 : Int32)), .val .null, .unset] [(.int 0), (.ref a1)])) _
    refine st15 _ ?_
    show Steps p.tables e below (T15.setTop (mkF m 26 #[.val (.ref a1), .val (.ref b), .val (.int (0 : Int32)), .val (.int (0 : Int32)), .val .null, .unset] [])) _
    exact X15.returnOut hx Bd.returns (hb hby dx_jdk_42_method_149_code_26) hr
  · show Qsvz Z G1 a1 b h0 n0 _ T15.heap _
    rw [e15]
    exact ⟨b2, kb2, rfl, N15, K0_16, f17, Fw15, f18, f19⟩
  · show CHr Z own_EL s.vm s.heap T15.vm T15.heap
    rw [hh, e15]
    exact hFin
theorem dx_jdk_42_method_3_code_0 : decode jdk_42_method_3_code 0 = .ok (.aload_n 0, 1) := by decide +kernel
theorem dx_jdk_42_method_3_code_1 : decode jdk_42_method_3_code 1 = .ok (.aload_n 1, 1) := by decide +kernel
theorem dx_jdk_42_method_3_code_2 : decode jdk_42_method_3_code 2 = .ok (.iconst 0, 1) := by decide +kernel
theorem dx_jdk_42_method_3_code_3 : decode jdk_42_method_3_code 3 = .ok (.aload_n 1, 1) := by decide +kernel
theorem dx_jdk_42_method_3_code_4 : decode jdk_42_method_3_code 4 = .ok (.arraylength, 1) := by decide +kernel
theorem dx_jdk_42_method_3_code_5 : decode jdk_42_method_3_code 5 = .ok (.aconst_null, 1) := by decide +kernel
theorem dx_jdk_42_method_3_code_6 : decode jdk_42_method_3_code 6 = .ok (.invokespecial 27, 3) := by decide +kernel
theorem pd___CIILjava_lang_Void__V : parseMethodDescriptor "([CIILjava/lang/Void;)V" = some ⟨[(.array .char), .int, .int, (.object "java/lang/Void")], none⟩ := by decide +kernel
theorem dx_jdk_42_method_3_code_9 : decode jdk_42_method_3_code 9 = .ok (.return_, 1) := by decide +kernel
def Qsz (Z : State) (G1 : Int32) (a1 : Addr) (b : Addr) (kc : ClassId) (h0 : Heap) (n0 : Nat) (v : Option Value) (h : Heap) (L : List Loc) : Prop := ∃ t : Addr, ∃ kb : ClassId, v = none ∧ Fr n0 L ∧ Keep h0 h [a1] ∧ Exa Z h a1 "java/lang/String" ∧ Fld Z h a1 "java/lang/String" "coder" "B" (.int 0) ∧ Fld Z h a1 "java/lang/String" "value" "[B" (.ref t) ∧ Arv Z h t kb .byte (0 : Int32) ([]) (.int 0)
theorem ef_jdk_42_method_3_code_RR (m : MethodId) (x0 : Addr) (x1 : Addr) : entryFrame m #[(.ref x0), (.ref x1)] 2 = mkF m 0 #[.val (.ref x0), .val (.ref x1)] [] := by first | (simp [entryFrame, mkF, argsToLocals, Value.category]; done) | rfl
abbrev y1 : MethodName := ⟨"java/lang/String", "<init>", "([C)V"⟩
set_option maxRecDepth 65536 in
set_option maxHeartbeats 40000000 in
theorem rmsz (l : Launch) (Z : State) (a0 : Array Value) (G1 : Int32) (hG : Glob Z a0 G1) (ws : List Jvm.Cond) (a1 : Addr) (b : Addr) (kc : ClassId) (h0 : Heap) (n0 : Nat) (Z0 : n0 ≤ h0.size) (X00 : Old Z n0 h0) (E_a1 : Exa Z h0 a1 "java/lang/String") (g_a1 : n0 ≤ a1) (F_value_a1 : Fld Z h0 a1 "java/lang/String" "value" "[B" .null) (F_coder_a1 : Fld Z h0 a1 "java/lang/String" "coder" "B" (.int (0 : Int32))) (V_b : Arv Z h0 b kc .char (0 : Int32) [] (.int (0 : Int32))) :
    MetFree l y1 (head1 (Jvm.Cond.code y1 jdk_42_method_3_code 2 none :: ws) ({ frames := 2, cells := 4, slots := 8, locals := 29 } : Room)) (fun a U => a = #[(.ref a1), (.ref b)] ∧ Z.Warmed39 U.vm ∧ U.heap = h0 ∧ CHv Z own_EL U.vm h0) (fun _ _ _ _ _ => True) (fun _ U o U' => ∃ v L, o = .returned v ∧ Qsz Z G1 a1 b kc h0 n0 v U'.heap L ∧ CHr Z own_EL U.vm U.heap U'.vm U'.heap ∧ ReturnedEndW U o U' L ({ frames := 2, cells := 4, slots := 8, locals := 29 } : Room).cells ({ frames := 2, cells := 4, slots := 8, locals := 29 } : Room).slots) := by
  obtain ⟨hw, O_cs, P_cs⟩ := id hG
  have W : ∀ (i : Nat) {d : Jvm.Cond}, tables_1[i]? = some d → d.before a0 Z = true := fun i d h => hw d (List.mem_of_getElem? h)
  refine MetFree.of_bodySF (plainFor_of_name pn_java_lang_String) hisR ?_
  intro p e s m args below meth c s₁ Bd hml0 hP hK
  obtain ⟨rfl, hZ, hh, hCH⟩ := hP
  have hx := Bd.exec
  have hby := Bd.bytes
  have hml : c.maxLocals = 2 := hml0
  have hown : s.vm.findClass "java/lang/String" = some m.cls := findClass_of_methodNamed Bd.named
  have hnm := (name_of_methodNamed Bd.named Bd.method).1
  have X0 : Stand p l e ({ frames := 2, cells := 4, slots := 8, locals := 29 } : Room) (s.setVm s.vm) m #[(.ref a1), (.ref b)] below meth c s₁ [] 0 0 := Stand.of_body Bd
  have e0 : s₁.heap = h0 := by rw [← hh, Bd.state]; rfl
  have hS0 : s.Since s.vm h0.size := (State.WarmedH.refl s).since _
  have hk0 : h0.size ≤ h0.size := Nat.le_refl _
  have R0 : CHr Z own_EL s.vm h0 s.vm h0 := CHr.refl hCH
  have hEL := own_ew hw
  have N0 := Fr.nil n0
  have pre0 : ∀ t, Steps p.tables e below (s₁.setTop (mkF m 0 #[.val (.ref a1), .val (.ref b)] [])) t → Steps p.tables e below (s₁.setTop (entryFrame m #[(.ref a1), (.ref b)] 2)) t := fun t kk_ => castTop (ef_jdk_42_method_3_code_RR m a1 b) kk_
  obtain ⟨clq20, Arq20, qaq20, Sq20, Nq20, Hq20, Gq20⟩ := id V_b
  -- pc 6: java/lang/String.<init>
  obtain ⟨_, _, ⟨T21, L21, k21, n21⟩, -, X21, hS21, hG21, ⟨Lc21, hQ21, l21, y21, z21, hC21⟩, st21⟩ := X0.specialBackS hx (y := y0) rfl hown (mvT hZ (W 11 rfl)) (mvT hZ (W 12 rfl)) (mvT hZ (W 14 rfl)) (by decide) (backOfSH (s := s) (W := 0) (rmsvz l Z a0 G1 hG [] a1 b h0 n0 Z0 X00 E_a1 g_a1 F_value_a1 F_coder_a1) hZ (W 14 rfl) (W 6 rfl) (by decide) (by decide) hEL R0.1) (g := (mkF m 6 #[.val (.ref a1), .val (.ref b)] [.null, (.int (0 : Int32)), (.int (0 : Int32)), (.ref b), (.ref a1)])) rfl (by rw [hml]; rfl) (Steps.refl _) (a := a1) (argsL := [(.ref b), (.int (0 : Int32)), (.int (0 : Int32)), .null]) (rest := []) (lenOf pd___CIILjava_lang_Void__V rfl) rfl (by show 2 * 0 + _ ≤ _; exact Nat.le_of_eq rfl) (hb hby dx_jdk_42_method_3_code_6) (fun _ _ => ⟨rfl, e0, (by decide : 0 + 4 ≤ _), (by decide : 0 + 8 ≤ _)⟩)
  dsimp only [Pt.U, Pt.locs, Pt.cells, Pt.slots] at X21 l21 y21 z21 st21 hQ21 hS21 hG21 hC21
  subst l21 y21 z21
  have hZ21 : Z.Warmed39 T21.vm := State.Warmed39.trans (t := s.setVm s.vm) hZ hS21.1
  have hw21 : T21.vm.findClass "java/lang/String" = some m.cls := by rw [hS21.1.alike.findClass]; exact hown
  have hSn21 : s.Since T21.vm T21.heap.size := hS0.trans hS21 (Nat.le_trans hk0 (by have q := hG21; rw [e0] at q; exact q))
  have X21 : Stand p l e _ (s.setVm T21.vm) m _ below meth c T21 _ _ _ := X21
  obtain ⟨t_21, kb_21, rfl, N21q, K21, f21_0, f21_1, f21_2, f21_3⟩ := hQ21
  have N21 := Fr.app N0 N21q
  have Z22 : n0 ≤ T21.heap.size := Nat.le_trans Z0 K21.1
  have K0_22 : Keep h0 T21.heap [a1] := (Keep.refl h0 [a1]).trans K21 (allS (Or.inl (List.mem_of_getElem? (i := 0) rfl)) all0)
  have O22 : Old Z n0 T21.heap := X00.keep K21 (allS g_a1 all0)
  have hkw21 : T21.heap.size ≤ T21.heap.size := Nat.le_refl _
  have Rb21 : CHr Z own_EL s.vm h0 T21.vm T21.heap := R0.trans hC21
  obtain ⟨fs, hr, hrun, hended, hend⟩ := Jvm.Stand.leaveW (v := none) X21 hSn21 hkw21 (fun _ => rfl)
  have hFin := Rb21.trans (CHv.at X21 hZ21 hEL Rb21.1)
  refine ⟨_, _, pre0 _ ?_, hrun, hended, _, _, rfl, ?_, ?_, own_mono hend (Nat.le_of_ble_eq_true rfl) (Nat.le_of_ble_eq_true rfl)⟩
  · show Steps p.tables e below (s₁.setTop (mkF m 0 #[.val (.ref a1), .val (.ref b)] [])) _
    refine XS.aloadN X0.here hx rfl (hb hby dx_jdk_42_method_3_code_0) rfl rfl ?_
    refine XS.aloadN X0.here hx rfl (hb hby dx_jdk_42_method_3_code_1) rfl rfl ?_
    refine XS.iconst X0.here hx rfl (hb hby dx_jdk_42_method_3_code_2) ?_
    refine XS.aloadN X0.here hx rfl (hb hby dx_jdk_42_method_3_code_3) rfl rfl ?_
    refine X0.arraylength hx (own_cell e0 Arq20.1) (State.isArrayOf_alike hZ.alike Arq20.2.1) (g := (mkF m 4 #[.val (.ref a1), .val (.ref b)] [(.ref b), (.int (0 : Int32)), (.ref b), (.ref a1)])) rfl rfl (hb hby dx_jdk_42_method_3_code_4) _ ?_
    rw [len_of Sq20 Nq20]
    refine XS.aconstNull X0.here hx rfl (hb hby dx_jdk_42_method_3_code_5) ?_
    refine st21.trans ?_
    show Steps p.tables e below (T21.setTop (mkF m 9 #[.val (.ref a1), .val (.ref b)] [])) _
    exact X21.returnOut hx Bd.returns (hb hby dx_jdk_42_method_3_code_9) hr
  · show Qsz Z G1 a1 b kc h0 n0 _ T21.heap _
    exact ⟨t_21, kb_21, rfl, N21, K0_22, f21_0, f21_1, f21_2, f21_3⟩
  · show CHr Z own_EL s.vm s.heap T21.vm T21.heap
    rw [hh]
    exact hFin
theorem dx_jdk_31_method_11_code_0 : decode jdk_31_method_11_code 0 = .ok (.aload_n 0, 1) := by decide +kernel
theorem dx_jdk_31_method_11_code_1 : decode jdk_31_method_11_code 1 = .ok (.ifnonnull 12, 3) := by decide +kernel
theorem dx_jdk_31_method_11_code_13 : decode jdk_31_method_11_code 13 = .ok (.aload_n 0, 1) := by decide +kernel
theorem dx_jdk_31_method_11_code_14 : decode jdk_31_method_11_code 14 = .ok (.areturn, 1) := by decide +kernel
def Qrnn (Z : State) (G1 : Int32) (a1 : Addr) (a2 : Addr) (h0 : Heap) (n0 : Nat) (v : Option Value) (h : Heap) (L : List Loc) : Prop := v = some (.ref a1) ∧ Fr n0 L ∧ h = h0
theorem ef_jdk_31_method_11_code_RR (m : MethodId) (x0 : Addr) (x1 : Addr) : entryFrame m #[(.ref x0), (.ref x1)] 2 = mkF m 0 #[.val (.ref x0), .val (.ref x1)] [] := by first | (simp [entryFrame, mkF, argsToLocals, Value.category]; done) | rfl
abbrev y2 : MethodName := ⟨"java/util/Objects", "requireNonNull", "(Ljava/lang/Object;Ljava/lang/String;)Ljava/lang/Object;"⟩
theorem pn_java_util_Objects : plainName "java/util/Objects" = true := by first | (simp [plainName, overriddenIn]; done) | decide +kernel
set_option maxRecDepth 65536 in
set_option maxHeartbeats 40000000 in
theorem rmrnn (l : Launch) (Z : State) (a0 : Array Value) (G1 : Int32) (hG : Glob Z a0 G1) (ws : List Jvm.Cond) (a1 : Addr) (a2 : Addr) (h0 : Heap) (n0 : Nat) (Z0 : n0 ≤ h0.size) (X00 : Old Z n0 h0) :
    MetFree l y2 (head1 (Jvm.Cond.code y2 jdk_31_method_11_code 2 (some (.object "java/lang/Object")) :: ws) ({ frames := 0, cells := 0, slots := 0, locals := 0 } : Room)) (fun a U => a = #[(.ref a1), (.ref a2)] ∧ Z.Warmed39 U.vm ∧ U.heap = h0) (fun _ _ _ _ _ => True) (fun _ U o U' => ∃ v L, o = .returned v ∧ Qrnn Z G1 a1 a2 h0 n0 v U'.heap L ∧ FrameEnd U o U' L ({ frames := 0, cells := 0, slots := 0, locals := 0 } : Room).cells ({ frames := 0, cells := 0, slots := 0, locals := 0 } : Room).slots) := by
  obtain ⟨hw, O_cs, P_cs⟩ := id hG
  have W : ∀ (i : Nat) {d : Jvm.Cond}, tables_1[i]? = some d → d.before a0 Z = true := fun i d h => hw d (List.mem_of_getElem? h)
  refine MetFree.of_bodySF (plainFor_of_name pn_java_util_Objects) hisR ?_
  intro p e s m args below meth c s₁ Bd hml0 hP hK
  obtain ⟨rfl, hZ, hh⟩ := hP
  have hx := Bd.exec
  have hby := Bd.bytes
  have hml : c.maxLocals = 2 := hml0
  have hown : s.vm.findClass "java/util/Objects" = some m.cls := findClass_of_methodNamed Bd.named
  have hnm := (name_of_methodNamed Bd.named Bd.method).1
  have X0 : Stand p l e ({ frames := 0, cells := 0, slots := 0, locals := 0 } : Room) s m #[(.ref a1), (.ref a2)] below meth c s₁ [] 0 0 := Stand.of_body Bd
  have e0 : s₁.heap = h0 := by rw [← hh, Bd.state]; rfl
  have N0 := Fr.nil n0
  have pre0 : ∀ t, Steps p.tables e below (s₁.setTop (mkF m 0 #[.val (.ref a1), .val (.ref a2)] [])) t → Steps p.tables e below (s₁.setTop (entryFrame m #[(.ref a1), (.ref a2)] 2)) t := fun t kk_ => castTop (ef_jdk_31_method_11_code_RR m a1 a2) kk_
  obtain ⟨fs, hr, hrun, hended, hW, hsame⟩ := X0.leave (v := some (.ref a1)) (fun h => by rw [Bd.returns] at h; cases h)
  refine ⟨_, _, pre0 _ ?_, hrun, hended, _, _, rfl, ?_, ⟨_, rfl⟩, hW, hsame.mono (Nat.le_of_ble_eq_true rfl) (Nat.le_of_ble_eq_true rfl)⟩
  · show Steps p.tables e below (s₁.setTop (mkF m 0 #[.val (.ref a1), .val (.ref a2)] [])) _
    refine XS.aloadN X0.here hx rfl (hb hby dx_jdk_31_method_11_code_0) rfl rfl ?_
    refine XS.ifnonnullYes X0.here hx rfl (pc0 := 1) (pc' := 13) rfl (hb hby dx_jdk_31_method_11_code_1) rfl (by decide) (by decide) ?_
    refine XS.aloadN X0.here hx rfl (hb hby dx_jdk_31_method_11_code_13) rfl rfl ?_
    exact retOut X0 hx Bd.returns rfl (Or.inr (Or.inr (Or.inr (Or.inr ⟨rfl, rfl, rfl⟩)))) (hb hby dx_jdk_31_method_11_code_14) hr
  · show Qrnn Z G1 a1 a2 h0 n0 _ s₁.heap _
    rw [e0]
    exact ⟨rfl, N0, rfl⟩
theorem dx_method_4_code_0 : decode method_4_code 0 = .ok (.iload_n 0, 1) := by decide +kernel
theorem dx_method_4_code_1 : decode method_4_code 1 = .ok (.sipush 255, 3) := by decide +kernel
theorem dx_method_4_code_4 : decode method_4_code 4 = .ok (.iand, 1) := by decide +kernel
theorem dx_method_4_code_5 : decode method_4_code 5 = .ok (.i2c, 1) := by decide +kernel
theorem dx_method_4_code_6 : decode method_4_code 6 = .ok (.istore_n 2, 1) := by decide +kernel
theorem dx_method_4_code_7 : decode method_4_code 7 = .ok (.iload_n 0, 1) := by decide +kernel
theorem dx_method_4_code_8 : decode method_4_code 8 = .ok (.bipush 8, 2) := by decide +kernel
theorem dx_method_4_code_10 : decode method_4_code 10 = .ok (.iushr, 1) := by decide +kernel
theorem dx_method_4_code_11 : decode method_4_code 11 = .ok (.sipush 255, 3) := by decide +kernel
theorem dx_method_4_code_14 : decode method_4_code 14 = .ok (.iand, 1) := by decide +kernel
theorem dx_method_4_code_15 : decode method_4_code 15 = .ok (.i2c, 1) := by decide +kernel
theorem dx_method_4_code_16 : decode method_4_code 16 = .ok (.istore_n 3, 1) := by decide +kernel
theorem dx_method_4_code_17 : decode method_4_code 17 = .ok (.iload_n 0, 1) := by decide +kernel
theorem dx_method_4_code_18 : decode method_4_code 18 = .ok (.bipush 16, 2) := by decide +kernel
theorem dx_method_4_code_20 : decode method_4_code 20 = .ok (.iushr, 1) := by decide +kernel
theorem dx_method_4_code_21 : decode method_4_code 21 = .ok (.sipush 255, 3) := by decide +kernel
theorem dx_method_4_code_24 : decode method_4_code 24 = .ok (.iand, 1) := by decide +kernel
theorem dx_method_4_code_25 : decode method_4_code 25 = .ok (.i2c, 1) := by decide +kernel
theorem dx_method_4_code_26 : decode method_4_code 26 = .ok (.istore 4, 2) := by decide +kernel
theorem dx_method_4_code_28 : decode method_4_code 28 = .ok (.iload_n 1, 1) := by decide +kernel
theorem dx_method_4_code_29 : decode method_4_code 29 = .ok (.ifCond .ne 14, 3) := by decide +kernel
theorem dx_method_4_code_32 : decode method_4_code 32 = .ok (.new 32, 3) := by decide +kernel
theorem dx_method_4_code_35 : decode method_4_code 35 = .ok (.dup, 1) := by decide +kernel
theorem dx_method_4_code_36 : decode method_4_code 36 = .ok (.iconst 0, 1) := by decide +kernel
theorem dx_method_4_code_37 : decode method_4_code 37 = .ok (.newarray .char, 2) := by decide +kernel
theorem dx_method_4_code_39 : decode method_4_code 39 = .ok (.invokespecial 47, 3) := by decide +kernel
theorem pd___C_V : parseMethodDescriptor "([C)V" = some ⟨[(.array .char)], none⟩ := by decide +kernel
theorem dx_method_4_code_42 : decode method_4_code 42 = .ok (.areturn, 1) := by decide +kernel
theorem dx_method_4_code_43 : decode method_4_code 43 = .ok (.iload_n 1, 1) := by decide +kernel
theorem dx_method_4_code_44 : decode method_4_code 44 = .ok (.iconst 1, 1) := by decide +kernel
theorem dx_method_4_code_45 : decode method_4_code 45 = .ok (.if_icmp .ne 18, 3) := by decide +kernel
theorem dx_method_4_code_48 : decode method_4_code 48 = .ok (.new 32, 3) := by decide +kernel
theorem dx_method_4_code_51 : decode method_4_code 51 = .ok (.dup, 1) := by decide +kernel
theorem dx_method_4_code_52 : decode method_4_code 52 = .ok (.iconst 1, 1) := by decide +kernel
theorem dx_method_4_code_53 : decode method_4_code 53 = .ok (.newarray .char, 2) := by decide +kernel
theorem dx_method_4_code_55 : decode method_4_code 55 = .ok (.dup, 1) := by decide +kernel
theorem dx_method_4_code_56 : decode method_4_code 56 = .ok (.iconst 0, 1) := by decide +kernel
theorem dx_method_4_code_57 : decode method_4_code 57 = .ok (.iload_n 2, 1) := by decide +kernel
theorem dx_method_4_code_58 : decode method_4_code 58 = .ok (.castore, 1) := by decide +kernel
theorem dx_method_4_code_59 : decode method_4_code 59 = .ok (.invokespecial 47, 3) := by decide +kernel
theorem dx_method_4_code_62 : decode method_4_code 62 = .ok (.areturn, 1) := by decide +kernel
theorem dx_method_4_code_63 : decode method_4_code 63 = .ok (.iload_n 1, 1) := by decide +kernel
theorem dx_method_4_code_64 : decode method_4_code 64 = .ok (.iconst 2, 1) := by decide +kernel
theorem dx_method_4_code_65 : decode method_4_code 65 = .ok (.if_icmp .ne 22, 3) := by decide +kernel
theorem dx_method_4_code_68 : decode method_4_code 68 = .ok (.new 32, 3) := by decide +kernel
theorem dx_method_4_code_71 : decode method_4_code 71 = .ok (.dup, 1) := by decide +kernel
theorem dx_method_4_code_72 : decode method_4_code 72 = .ok (.iconst 2, 1) := by decide +kernel
theorem dx_method_4_code_73 : decode method_4_code 73 = .ok (.newarray .char, 2) := by decide +kernel
theorem dx_method_4_code_75 : decode method_4_code 75 = .ok (.dup, 1) := by decide +kernel
theorem dx_method_4_code_76 : decode method_4_code 76 = .ok (.iconst 0, 1) := by decide +kernel
theorem dx_method_4_code_77 : decode method_4_code 77 = .ok (.iload_n 2, 1) := by decide +kernel
theorem dx_method_4_code_78 : decode method_4_code 78 = .ok (.castore, 1) := by decide +kernel
theorem dx_method_4_code_79 : decode method_4_code 79 = .ok (.dup, 1) := by decide +kernel
theorem dx_method_4_code_80 : decode method_4_code 80 = .ok (.iconst 1, 1) := by decide +kernel
theorem dx_method_4_code_81 : decode method_4_code 81 = .ok (.iload_n 3, 1) := by decide +kernel
theorem dx_method_4_code_82 : decode method_4_code 82 = .ok (.castore, 1) := by decide +kernel
theorem dx_method_4_code_83 : decode method_4_code 83 = .ok (.invokespecial 47, 3) := by decide +kernel
theorem dx_method_4_code_86 : decode method_4_code 86 = .ok (.areturn, 1) := by decide +kernel
theorem dx_method_4_code_87 : decode method_4_code 87 = .ok (.new 32, 3) := by decide +kernel
theorem dx_method_4_code_90 : decode method_4_code 90 = .ok (.dup, 1) := by decide +kernel
theorem dx_method_4_code_91 : decode method_4_code 91 = .ok (.iconst 3, 1) := by decide +kernel
theorem dx_method_4_code_92 : decode method_4_code 92 = .ok (.newarray .char, 2) := by decide +kernel
theorem dx_method_4_code_94 : decode method_4_code 94 = .ok (.dup, 1) := by decide +kernel
theorem dx_method_4_code_95 : decode method_4_code 95 = .ok (.iconst 0, 1) := by decide +kernel
theorem dx_method_4_code_96 : decode method_4_code 96 = .ok (.iload_n 2, 1) := by decide +kernel
theorem dx_method_4_code_97 : decode method_4_code 97 = .ok (.castore, 1) := by decide +kernel
theorem dx_method_4_code_98 : decode method_4_code 98 = .ok (.dup, 1) := by decide +kernel
theorem dx_method_4_code_99 : decode method_4_code 99 = .ok (.iconst 1, 1) := by decide +kernel
theorem dx_method_4_code_100 : decode method_4_code 100 = .ok (.iload_n 3, 1) := by decide +kernel
theorem dx_method_4_code_101 : decode method_4_code 101 = .ok (.castore, 1) := by decide +kernel
theorem dx_method_4_code_102 : decode method_4_code 102 = .ok (.dup, 1) := by decide +kernel
theorem dx_method_4_code_103 : decode method_4_code 103 = .ok (.iconst 2, 1) := by decide +kernel
theorem dx_method_4_code_104 : decode method_4_code 104 = .ok (.iload 4, 2) := by decide +kernel
theorem dx_method_4_code_106 : decode method_4_code 106 = .ok (.castore, 1) := by decide +kernel
theorem dx_method_4_code_107 : decode method_4_code 107 = .ok (.invokespecial 47, 3) := by decide +kernel
theorem dx_method_4_code_110 : decode method_4_code 110 = .ok (.areturn, 1) := by decide +kernel
def Qstr (Z : State) (G1 : Int32) (pz : Int32) (q : Int32) (h0 : Heap) (n0 : Nat) (v : Option Value) (h : Heap) (L : List Loc) : Prop := ∃ b : Addr, v = some (.ref b) ∧ Fr n0 L ∧ Keep h0 h [] ∧ h0.size ≤ b ∧ Exa Z h b "java/lang/String"
theorem ef_method_4_code_II (m : MethodId) (x0 : Int32) (x1 : Int32) : entryFrame m #[(.int x0), (.int x1)] 5 = mkF m 0 #[.val (.int x0), .val (.int x1), .unset, .unset, .unset] [] := by first | (simp [entryFrame, mkF, argsToLocals, Value.category]; done) | rfl
abbrev y3 : MethodName := ⟨"com/example/larkbridge/larkbridge/mcp/McpResourceContentsBinaryPinLaw", "str", "(II)Ljava/lang/String;"⟩
theorem pn_com_example_larkbridge_larkbridge_mcp_McpResourceContentsBinaryPinLaw : plainName "com/example/larkbridge/larkbridge/mcp/McpResourceContentsBinaryPinLaw" = true := by first | (simp [plainName, overriddenIn]; done) | decide +kernel
set_option maxRecDepth 65536 in
set_option maxHeartbeats 40000000 in
theorem rmstr_0 (l : Launch) (Z : State) (a0 : Array Value) (G1 : Int32) (hG : Glob Z a0 G1) (ws : List Jvm.Cond) (pz : Int32) (q : Int32) (h0 : Heap) (n0 : Nat) (Z0 : n0 ≤ h0.size) (X00 : Old Z n0 h0) (hc29 : q = (0 : Int32)) :
    MetFree l y3 (head1 (Jvm.Cond.code y3 method_4_code 5 (some (.object "java/lang/String")) :: ws) ({ frames := 4, cells := 6, slots := 12, locals := 66 } : Room)) (fun a U => a = #[(.int pz), (.int q)] ∧ Z.Warmed39 U.vm ∧ U.heap = h0 ∧ CHv Z own_EL U.vm h0) (fun _ _ _ _ _ => True) (fun _ U o U' => ∃ v L, o = .returned v ∧ Qstr Z G1 pz q h0 n0 v U'.heap L ∧ CHr Z own_EL U.vm U.heap U'.vm U'.heap ∧ ReturnedEndW U o U' L ({ frames := 4, cells := 6, slots := 12, locals := 66 } : Room).cells ({ frames := 4, cells := 6, slots := 12, locals := 66 } : Room).slots) := by
  obtain ⟨hw, O_cs, P_cs⟩ := id hG
  have W : ∀ (i : Nat) {d : Jvm.Cond}, tables_1[i]? = some d → d.before a0 Z = true := fun i d h => hw d (List.mem_of_getElem? h)
  refine MetFree.of_bodySF (plainFor_of_name pn_com_example_larkbridge_larkbridge_mcp_McpResourceContentsBinaryPinLaw) hisR ?_
  intro p e s m args below meth c s₁ Bd hml0 hP hK
  obtain ⟨rfl, hZ, hh, hCH⟩ := hP
  have hx := Bd.exec
  have hby := Bd.bytes
  have hml : c.maxLocals = 5 := hml0
  have hown : s.vm.findClass "com/example/larkbridge/larkbridge/mcp/McpResourceContentsBinaryPinLaw" = some m.cls := findClass_of_methodNamed Bd.named
  have hnm := (name_of_methodNamed Bd.named Bd.method).1
  have X0 : Stand p l e ({ frames := 4, cells := 6, slots := 12, locals := 66 } : Room) (s.setVm s.vm) m #[(.int pz), (.int q)] below meth c s₁ [] 0 0 := Stand.of_body Bd
  have e0 : s₁.heap = h0 := by rw [← hh, Bd.state]; rfl
  have hS0 : s.Since s.vm h0.size := (State.WarmedH.refl s).since _
  have hk0 : h0.size ≤ h0.size := Nat.le_refl _
  have R0 : CHr Z own_EL s.vm h0 s.vm h0 := CHr.refl hCH
  have hEL := own_ew hw
  have N0 := Fr.nil n0
  have pre0 : ∀ t, Steps p.tables e below (s₁.setTop (mkF m 0 #[.val (.int pz), .val (.int q), .unset, .unset, .unset] [])) t → Steps p.tables e below (s₁.setTop (entryFrame m #[(.int pz), (.int q)] 5)) t := fun t kk_ => castTop (ef_method_4_code_II m pz q) kk_
  obtain ⟨T23, h23, X23, e23, E23, A23, D23, -, st23⟩ := newO X0 hx hZ hown (W 4 rfl) (W 5 rfl) (W 6 rfl) e0 (g := (mkF m 32 #[.val (.int pz), .val (.int q), .val (.int ((pz &&& (255 : Int32)).toUInt32.toUInt16.toUInt32.toInt32)), .val (.int ((((pz.toUInt32 >>> ((8 : Int32) &&& 31).toUInt32).toInt32) &&& (255 : Int32)).toUInt32.toUInt16.toUInt32.toInt32)), .val (.int ((((pz.toUInt32 >>> ((16 : Int32) &&& 31).toUInt32).toInt32) &&& (255 : Int32)).toUInt32.toUInt16.toUInt32.toInt32))] [])) rfl (hb hby dx_method_4_code_32) (by decide) (by decide)
  obtain ⟨b23, g23⟩ : ∃ z, z = h0.size := ⟨_, rfl⟩
  rw [← g23] at A23 D23 st23
  have Z24 : n0 ≤ h23.size := Nat.le_trans Z0 E23.1
  have K0_24 : Keep h0 h23 [] := (Keep.refl h0 []).ext E23
  have O24 : Old Z n0 h23 := X00.ext E23
  have R24 : CHr Z own_EL s.vm h0 s.vm h23 := R0.trans (CHr.ext E23 R0.1)
  have hk24 : h0.size ≤ h23.size := Nat.le_trans hk0 E23.1
  have lo_b23 : h0.size ≤ b23 := Nat.le_of_eq g23.symm
  have g_b23 : n0 ≤ b23 := Nat.le_trans Z0 lo_b23
  have l0_b23 : h0.size ≤ b23 := Nat.le_trans (Keep.refl h0 []).1 lo_b23
  have F_coder_b23 : Fld Z h23 b23 "java/lang/String" "coder" "B" (.int (0 : Int32)) := D23 (Or.inr (W 31 rfl)) (ty := .byte) (by decide)
  have F_value_b23 : Fld Z h23 b23 "java/lang/String" "value" "[B" .null := D23 (Or.inr (W 33 rfl)) (ty := (.array .byte)) (by decide)
  obtain ⟨T25, h25, k25, X25, e25, E25, A25, st25⟩ := newP X23 hx hZ (W 7 rfl) e23 (g := (mkF m 37 #[.val (.int pz), .val (.int q), .val (.int ((pz &&& (255 : Int32)).toUInt32.toUInt16.toUInt32.toInt32)), .val (.int ((((pz.toUInt32 >>> ((8 : Int32) &&& 31).toUInt32).toInt32) &&& (255 : Int32)).toUInt32.toUInt16.toUInt32.toInt32)), .val (.int ((((pz.toUInt32 >>> ((16 : Int32) &&& 31).toUInt32).toInt32) &&& (255 : Int32)).toUInt32.toUInt16.toUInt32.toInt32))] [(.int (0 : Int32)), (.ref b23), (.ref b23)])) rfl (hb hby dx_method_4_code_37) rfl (by decide) (cap := 0) (by decide) (by decide) (by decide) (by decide)
  obtain ⟨b25, g25⟩ : ∃ z, z = h23.size := ⟨_, rfl⟩
  rw [← g25] at A25 st25
  have Z26 : n0 ≤ h25.size := Nat.le_trans Z24 E25.1
  have K0_26 : Keep h0 h25 [] := K0_24.ext E25
  have O26 : Old Z n0 h25 := O24.ext E25
  have R26 : CHr Z own_EL s.vm h0 s.vm h25 := R24.trans (CHr.ext E25 R24.1)
  have hk26 : h0.size ≤ h25.size := Nat.le_trans hk24 E25.1
  have lo_b25 : h23.size ≤ b25 := Nat.le_of_eq g25.symm
  have g_b25 : n0 ≤ b25 := Nat.le_trans Z24 lo_b25
  have l0_b25 : h0.size ≤ b25 := Nat.le_trans K0_24.1 lo_b25
  have V_b25 : Arv Z h25 b25 k25 .char (0 : Int32) [] (.int (0 : Int32)) := (Arv.new A25 (by decide)).pad (pad_rep [] (.int (0 : Int32)) 0)
  have f28 := (A23.ext E25)
  have f29 := (F_value_b23.ext E25)
  have f30 := (F_coder_b23.ext E25)
  -- pc 39: java/lang/String.<init>
  obtain ⟨_, _, ⟨T27, L27, k27, n27⟩, -, X27, hS27, hG27, ⟨Lc27, hQ27, l27, y27, z27, hC27⟩, st27⟩ := X25.specialBackS hx (y := y1) rfl hown (mvT hZ (W 8 rfl)) (mvT hZ (W 9 rfl)) (mvT hZ (W 10 rfl)) (by decide) (backOfSH (s := s) (W := 1) (rmsz l Z a0 G1 hG [] b23 b25 k25 h25 n0 Z26 O26 f28 g_b23 f29 f30 V_b25) hZ (W 10 rfl) (W 6 rfl) (by decide) (by decide) hEL R26.1) (g := (mkF m 39 #[.val (.int pz), .val (.int q), .val (.int ((pz &&& (255 : Int32)).toUInt32.toUInt16.toUInt32.toInt32)), .val (.int ((((pz.toUInt32 >>> ((8 : Int32) &&& 31).toUInt32).toInt32) &&& (255 : Int32)).toUInt32.toUInt16.toUInt32.toInt32)), .val (.int ((((pz.toUInt32 >>> ((16 : Int32) &&& 31).toUInt32).toInt32) &&& (255 : Int32)).toUInt32.toUInt16.toUInt32.toInt32))] [(.ref b25), (.ref b23), (.ref b23)])) rfl (by rw [hml]; rfl) (Steps.refl _) (a := b23) (argsL := [(.ref b25)]) (rest := [(.ref b23)]) (lenOf pd___C_V rfl) rfl (by show 2 * 0 + _ ≤ _; exact Nat.le_of_eq rfl) (hb hby dx_method_4_code_39) (fun _ _ => ⟨rfl, e25, (by decide : 2 + 4 ≤ _), (by decide : 4 + 8 ≤ _)⟩)
  dsimp only [Pt.U, Pt.locs, Pt.cells, Pt.slots] at X27 l27 y27 z27 st27 hQ27 hS27 hG27 hC27
  subst l27 y27 z27
  have hZ27 : Z.Warmed39 T27.vm := State.Warmed39.trans (t := s.setVm s.vm) hZ hS27.1
  have hw27 : T27.vm.findClass "com/example/larkbridge/larkbridge/mcp/McpResourceContentsBinaryPinLaw" = some m.cls := by rw [hS27.1.alike.findClass]; exact hown
  have hSn27 : s.Since T27.vm T27.heap.size := hS0.trans hS27 (Nat.le_trans hk26 (by have q := hG27; rw [e25] at q; exact q))
  have X27 : Stand p l e _ (s.setVm T27.vm) m _ below meth c T27 _ _ _ := X27
  obtain ⟨t_27, kb_27, rfl, N27q, K27, f27_0, f27_1, f27_2, f27_3⟩ := hQ27
  have N27 := Fr.app N0 N27q
  have Z31 : n0 ≤ T27.heap.size := Nat.le_trans Z26 K27.1
  have K0_31 : Keep h0 T27.heap [] := K0_26.trans K27 (allS (Or.inr l0_b23) all0)
  have O31 : Old Z n0 T27.heap := O26.keep K27 (allS g_b23 all0)
  have hkw27 : T27.heap.size ≤ T27.heap.size := Nat.le_refl _
  have Rb27 : CHr Z own_EL s.vm h0 T27.vm T27.heap := R26.trans hC27
  obtain ⟨fs, hr, hrun, hended, hend⟩ := Jvm.Stand.leaveW (v := some (.ref b23)) X27 hSn27 hkw27 (fun h => by rw [Bd.returns] at h; cases h)
  have hFin := Rb27.trans (CHv.at X27 hZ27 hEL Rb27.1)
  refine ⟨_, _, pre0 _ ?_, hrun, hended, _, _, rfl, ?_, ?_, own_mono hend (Nat.le_of_ble_eq_true rfl) (Nat.le_of_ble_eq_true rfl)⟩
  · show Steps p.tables e below (s₁.setTop (mkF m 0 #[.val (.int pz), .val (.int q), .unset, .unset, .unset] [])) _
    refine XS.iloadN X0.here hx rfl (hb hby dx_method_4_code_0) rfl ?_
    refine XS.sipush X0.here hx rfl (hb hby dx_method_4_code_1) ?_
    refine XS.iand X0.here hx rfl (hb hby dx_method_4_code_4) rfl ?_
    refine XS.i2c X0.here hx rfl (hb hby dx_method_4_code_5) rfl ?_
    refine XS.istoreN X0.here hx rfl (hb hby dx_method_4_code_6) rfl (l' := #[.val (.int pz), .val (.int q), .val (.int ((pz &&& (255 : Int32)).toUInt32.toUInt16.toUInt32.toInt32)), .unset, .unset]) rfl ?_
    refine XS.iloadN X0.here hx rfl (hb hby dx_method_4_code_7) rfl ?_
    refine XS.bipush X0.here hx rfl (hb hby dx_method_4_code_8) ?_
    refine XS.iushr X0.here hx rfl (hb hby dx_method_4_code_10) rfl ?_
    show Steps p.tables e below (s₁.setTop (mkF m 11 #[.val (.int pz), .val (.int q), .val (.int ((pz &&& (255 : Int32)).toUInt32.toUInt16.toUInt32.toInt32)), .unset, .unset] [(.int ((pz.toUInt32 >>> ((8 : Int32) &&& 31).toUInt32).toInt32))])) _
    refine XS.sipush X0.here hx rfl (hb hby dx_method_4_code_11) ?_
    refine XS.iand X0.here hx rfl (hb hby dx_method_4_code_14) rfl ?_
    refine XS.i2c X0.here hx rfl (hb hby dx_method_4_code_15) rfl ?_
    refine XS.istoreN X0.here hx rfl (hb hby dx_method_4_code_16) rfl (l' := #[.val (.int pz), .val (.int q), .val (.int ((pz &&& (255 : Int32)).toUInt32.toUInt16.toUInt32.toInt32)), .val (.int ((((pz.toUInt32 >>> ((8 : Int32) &&& 31).toUInt32).toInt32) &&& (255 : Int32)).toUInt32.toUInt16.toUInt32.toInt32)), .unset]) rfl ?_
    refine XS.iloadN X0.here hx rfl (hb hby dx_method_4_code_17) rfl ?_
    refine XS.bipush X0.here hx rfl (hb hby dx_method_4_code_18) ?_
    refine XS.iushr X0.here hx rfl (hb hby dx_method_4_code_20) rfl ?_
    refine XS.sipush X0.here hx rfl (hb hby dx_method_4_code_21) ?_
    show Steps p.tables e below (s₁.setTop (mkF m 24 #[.val (.int pz), .val (.int q), .val (.int ((pz &&& (255 : Int32)).toUInt32.toUInt16.toUInt32.toInt32)), .val (.int ((((pz.toUInt32 >>> ((8 : Int32) &&& 31).toUInt32).toInt32) &&& (255 : Int32)).toUInt32.toUInt16.toUInt32.toInt32)), .unset] [(.int (255 : Int32)), (.int ((pz.toUInt32 >>> ((16 : Int32) &&& 31).toUInt32).toInt32))])) _
    refine XS.iand X0.here hx rfl (hb hby dx_method_4_code_24) rfl ?_
    refine XS.i2c X0.here hx rfl (hb hby dx_method_4_code_25) rfl ?_
    refine XS.istore X0.here hx rfl (hb hby dx_method_4_code_26) rfl (l' := #[.val (.int pz), .val (.int q), .val (.int ((pz &&& (255 : Int32)).toUInt32.toUInt16.toUInt32.toInt32)), .val (.int ((((pz.toUInt32 >>> ((8 : Int32) &&& 31).toUInt32).toInt32) &&& (255 : Int32)).toUInt32.toUInt16.toUInt32.toInt32)), .val (.int ((((pz.toUInt32 >>> ((16 : Int32) &&& 31).toUInt32).toInt32) &&& (255 : Int32)).toUInt32.toUInt16.toUInt32.toInt32))]) rfl ?_
    refine XS.iloadN X0.here hx rfl (hb hby dx_method_4_code_28) rfl ?_
    refine XS.ifNo X0.here hx rfl (hb hby dx_method_4_code_29) rfl ((if0 _ _).trans (teq (hc29 : q = (0 : Int32))).2) ?_
    refine st23 _ ?_
    show Steps p.tables e below (T23.setTop (mkF m 35 #[.val (.int pz), .val (.int q), .val (.int ((pz &&& (255 : Int32)).toUInt32.toUInt16.toUInt32.toInt32)), .val (.int ((((pz.toUInt32 >>> ((8 : Int32) &&& 31).toUInt32).toInt32) &&& (255 : Int32)).toUInt32.toUInt16.toUInt32.toInt32)), .val (.int ((((pz.toUInt32 >>> ((16 : Int32) &&& 31).toUInt32).toInt32) &&& (255 : Int32)).toUInt32.toUInt16.toUInt32.toInt32))] [(.ref b23)])) _
    refine XS.dup X23.here hx rfl (hb hby dx_method_4_code_35) rfl rfl ?_
    refine XS.iconst X23.here hx rfl (hb hby dx_method_4_code_36) ?_
    refine st25 _ ?_
    show Steps p.tables e below (T25.setTop (mkF m 39 #[.val (.int pz), .val (.int q), .val (.int ((pz &&& (255 : Int32)).toUInt32.toUInt16.toUInt32.toInt32)), .val (.int ((((pz.toUInt32 >>> ((8 : Int32) &&& 31).toUInt32).toInt32) &&& (255 : Int32)).toUInt32.toUInt16.toUInt32.toInt32)), .val (.int ((((pz.toUInt32 >>> ((16 : Int32) &&& 31).toUInt32).toInt32) &&& (255 : Int32)).toUInt32.toUInt16.toUInt32.toInt32))] [(.ref b25), (.ref b23), (.ref b23)])) _
    refine st27.trans ?_
    show Steps p.tables e below (T27.setTop (mkF m 42 #[.val (.int pz), .val (.int q), .val (.int ((pz &&& (255 : Int32)).toUInt32.toUInt16.toUInt32.toInt32)), .val (.int ((((pz.toUInt32 >>> ((8 : Int32) &&& 31).toUInt32).toInt32) &&& (255 : Int32)).toUInt32.toUInt16.toUInt32.toInt32)), .val (.int ((((pz.toUInt32 >>> ((16 : Int32) &&& 31).toUInt32).toInt32) &&& (255 : Int32)).toUInt32.toUInt16.toUInt32.toInt32))] [(.ref b23)])) _
    exact retOut X27 hx Bd.returns rfl (Or.inr (Or.inr (Or.inr (Or.inr ⟨rfl, rfl, rfl⟩)))) (hb hby dx_method_4_code_42) hr
  · show Qstr Z G1 pz q h0 n0 _ T27.heap _
    exact ⟨b23, rfl, N27, K0_31, l0_b23, f27_0⟩
  · show CHr Z own_EL s.vm s.heap T27.vm T27.heap
    rw [hh]
    exact hFin
set_option maxRecDepth 65536 in
set_option maxHeartbeats 40000000 in
theorem rmstr_1 (l : Launch) (Z : State) (a0 : Array Value) (G1 : Int32) (hG : Glob Z a0 G1) (ws : List Jvm.Cond) (pz : Int32) (q : Int32) (h0 : Heap) (n0 : Nat) (Z0 : n0 ≤ h0.size) (X00 : Old Z n0 h0) (hc29 : ¬ (q = (0 : Int32))) (hc45 : q = (1 : Int32)) :
    MetFree l y3 (head1 (Jvm.Cond.code y3 method_4_code 5 (some (.object "java/lang/String")) :: ws) ({ frames := 4, cells := 6, slots := 12, locals := 66 } : Room)) (fun a U => a = #[(.int pz), (.int q)] ∧ Z.Warmed39 U.vm ∧ U.heap = h0 ∧ CHv Z own_EL U.vm h0) (fun _ _ _ _ _ => True) (fun _ U o U' => ∃ v L, o = .returned v ∧ Qstr Z G1 pz q h0 n0 v U'.heap L ∧ CHr Z own_EL U.vm U.heap U'.vm U'.heap ∧ ReturnedEndW U o U' L ({ frames := 4, cells := 6, slots := 12, locals := 66 } : Room).cells ({ frames := 4, cells := 6, slots := 12, locals := 66 } : Room).slots) := by
  obtain ⟨hw, O_cs, P_cs⟩ := id hG
  have W : ∀ (i : Nat) {d : Jvm.Cond}, tables_1[i]? = some d → d.before a0 Z = true := fun i d h => hw d (List.mem_of_getElem? h)
  refine MetFree.of_bodySF (plainFor_of_name pn_com_example_larkbridge_larkbridge_mcp_McpResourceContentsBinaryPinLaw) hisR ?_
  intro p e s m args below meth c s₁ Bd hml0 hP hK
  obtain ⟨rfl, hZ, hh, hCH⟩ := hP
  have hx := Bd.exec
  have hby := Bd.bytes
  have hml : c.maxLocals = 5 := hml0
  have hown : s.vm.findClass "com/example/larkbridge/larkbridge/mcp/McpResourceContentsBinaryPinLaw" = some m.cls := findClass_of_methodNamed Bd.named
  have hnm := (name_of_methodNamed Bd.named Bd.method).1
  have X0 : Stand p l e ({ frames := 4, cells := 6, slots := 12, locals := 66 } : Room) (s.setVm s.vm) m #[(.int pz), (.int q)] below meth c s₁ [] 0 0 := Stand.of_body Bd
  have e0 : s₁.heap = h0 := by rw [← hh, Bd.state]; rfl
  have hS0 : s.Since s.vm h0.size := (State.WarmedH.refl s).since _
  have hk0 : h0.size ≤ h0.size := Nat.le_refl _
  have R0 : CHr Z own_EL s.vm h0 s.vm h0 := CHr.refl hCH
  have hEL := own_ew hw
  have N0 := Fr.nil n0
  have pre0 : ∀ t, Steps p.tables e below (s₁.setTop (mkF m 0 #[.val (.int pz), .val (.int q), .unset, .unset, .unset] [])) t → Steps p.tables e below (s₁.setTop (entryFrame m #[(.int pz), (.int q)] 5)) t := fun t kk_ => castTop (ef_method_4_code_II m pz q) kk_
  obtain ⟨T32, h32, X32, e32, E32, A32, D32, -, st32⟩ := newO X0 hx hZ hown (W 4 rfl) (W 5 rfl) (W 6 rfl) e0 (g := (mkF m 48 #[.val (.int pz), .val (.int q), .val (.int ((pz &&& (255 : Int32)).toUInt32.toUInt16.toUInt32.toInt32)), .val (.int ((((pz.toUInt32 >>> ((8 : Int32) &&& 31).toUInt32).toInt32) &&& (255 : Int32)).toUInt32.toUInt16.toUInt32.toInt32)), .val (.int ((((pz.toUInt32 >>> ((16 : Int32) &&& 31).toUInt32).toInt32) &&& (255 : Int32)).toUInt32.toUInt16.toUInt32.toInt32))] [])) rfl (hb hby dx_method_4_code_48) (by decide) (by decide)
  obtain ⟨b32, g32⟩ : ∃ z, z = h0.size := ⟨_, rfl⟩
  rw [← g32] at A32 D32 st32
  have Z33 : n0 ≤ h32.size := Nat.le_trans Z0 E32.1
  have K0_33 : Keep h0 h32 [] := (Keep.refl h0 []).ext E32
  have O33 : Old Z n0 h32 := X00.ext E32
  have R33 : CHr Z own_EL s.vm h0 s.vm h32 := R0.trans (CHr.ext E32 R0.1)
  have hk33 : h0.size ≤ h32.size := Nat.le_trans hk0 E32.1
  have lo_b32 : h0.size ≤ b32 := Nat.le_of_eq g32.symm
  have g_b32 : n0 ≤ b32 := Nat.le_trans Z0 lo_b32
  have l0_b32 : h0.size ≤ b32 := Nat.le_trans (Keep.refl h0 []).1 lo_b32
  have F_coder_b32 : Fld Z h32 b32 "java/lang/String" "coder" "B" (.int (0 : Int32)) := D32 (Or.inr (W 31 rfl)) (ty := .byte) (by decide)
  have F_value_b32 : Fld Z h32 b32 "java/lang/String" "value" "[B" .null := D32 (Or.inr (W 33 rfl)) (ty := (.array .byte)) (by decide)
  obtain ⟨T34, h34, k34, X34, e34, E34, A34, st34⟩ := newP X32 hx hZ (W 7 rfl) e32 (g := (mkF m 53 #[.val (.int pz), .val (.int q), .val (.int ((pz &&& (255 : Int32)).toUInt32.toUInt16.toUInt32.toInt32)), .val (.int ((((pz.toUInt32 >>> ((8 : Int32) &&& 31).toUInt32).toInt32) &&& (255 : Int32)).toUInt32.toUInt16.toUInt32.toInt32)), .val (.int ((((pz.toUInt32 >>> ((16 : Int32) &&& 31).toUInt32).toInt32) &&& (255 : Int32)).toUInt32.toUInt16.toUInt32.toInt32))] [(.int (1 : Int32)), (.ref b32), (.ref b32)])) rfl (hb hby dx_method_4_code_53) rfl (by decide) (cap := 1) (by decide) (by decide) (by decide) (by decide)
  obtain ⟨b34, g34⟩ : ∃ z, z = h32.size := ⟨_, rfl⟩
  rw [← g34] at A34 st34
  have Z35 : n0 ≤ h34.size := Nat.le_trans Z33 E34.1
  have K0_35 : Keep h0 h34 [] := K0_33.ext E34
  have O35 : Old Z n0 h34 := O33.ext E34
  have R35 : CHr Z own_EL s.vm h0 s.vm h34 := R33.trans (CHr.ext E34 R33.1)
  have hk35 : h0.size ≤ h34.size := Nat.le_trans hk33 E34.1
  have lo_b34 : h32.size ≤ b34 := Nat.le_of_eq g34.symm
  have g_b34 : n0 ≤ b34 := Nat.le_trans Z33 lo_b34
  have l0_b34 : h0.size ≤ b34 := Nat.le_trans K0_33.1 lo_b34
  have V_b34 : Arv Z h34 b34 k34 .char (1 : Int32) [(.int (0 : Int32))] (.int (0 : Int32)) := (Arv.new A34 (by decide)).pad (pad_rep [] (.int (0 : Int32)) 1)
  obtain ⟨clq36, Arq36, qaq36, Sq36, Nq36, Hq36, Gq36⟩ := id V_b34
  have hinq36 : ¬ ((0 : Int32) < 0 ∨ clq36.slots.size ≤ ((0 : Int32)).toNatClampNeg) := inb_of Sq36 ⟨by decide, by decide⟩
  obtain ⟨T37, h37, X37, e37, W37, st37⟩ := stC X34 hx hZ e34 Arq36 (j := (0 : Int32)) hinq36 (g := (mkF m 58 #[.val (.int pz), .val (.int q), .val (.int ((pz &&& (255 : Int32)).toUInt32.toUInt16.toUInt32.toInt32)), .val (.int ((((pz.toUInt32 >>> ((8 : Int32) &&& 31).toUInt32).toInt32) &&& (255 : Int32)).toUInt32.toUInt16.toUInt32.toInt32)), .val (.int ((((pz.toUInt32 >>> ((16 : Int32) &&& 31).toUInt32).toInt32) &&& (255 : Int32)).toUInt32.toUInt16.toUInt32.toInt32))] [(.int ((pz &&& (255 : Int32)).toUInt32.toUInt16.toUInt32.toInt32)), (.int (0 : Int32)), (.ref b34), (.ref b34), (.ref b32), (.ref b32)])) rfl rfl (hb hby dx_method_4_code_58)
  have V37 : Arv Z h37 b34 k34 .char (1 : Int32) [(.int (nar .char ((pz &&& (255 : Int32)).toUInt32.toUInt16.toUInt32.toInt32)))] (.int (0 : Int32)) := Arv.set Arq36 qaq36 Sq36 Nq36 Hq36 Gq36 (fits_nar_char _) W37 0 rfl (Nat.le_of_ble_eq_true rfl)
  have Z38 : n0 ≤ h37.size := Nat.le_trans Z35 (Keep.of_wr W37).1
  have K0_38 : Keep h0 h37 [] := K0_35.wr W37 (Or.inr l0_b34)
  have O38 : Old Z n0 h37 := O35.wr W37 g_b34
  have R38 : CHr Z own_EL s.vm h0 s.vm h37 := R35.trans (CHr.wr W37 (Safe.arv hZ.alike V_b34 (by decide)) R35.1)
  have hk38 : h0.size ≤ h37.size := Nat.le_trans hk35 (Keep.of_wr W37).1
  have N37 := Fr.snoc X37 N0 g_b34
  have hws39 := own_hws hw
  have hp39 : ∀ c ∈ ([(nar .char ((pz &&& (255 : Int32)).toUInt32.toUInt16.toUInt32.toInt32))] : List Int32), ¬ c < 0 ∧ ¬ (255 : Int32) < c := by
    intro c hc
    simp only [List.mem_cons, List.not_mem_nil, or_false] at hc
    rcases hc with rfl <;> exact own_char255 _
  have f40 := ((A32.ext E34).wr W37)
  have f41 := ((F_value_b32.ext E34).other W37 (Or.inl (Nat.ne_of_lt (Nat.lt_of_lt_of_le A32.lt lo_b34))))
  have f42 := ((F_coder_b32.ext E34).other W37 (Or.inl (Nat.ne_of_lt (Nat.lt_of_lt_of_le A32.lt lo_b34))))
  -- pc 59: java/lang/String.<init>
  obtain ⟨_, _, ⟨T39, L39, k39, n39⟩, -, X39, ⟨Lc39, hQ39, l39, y39, z39⟩, st39⟩ := X37.specialBack hx (y := y1) rfl hown (mvT hZ (W 8 rfl)) (mvT hZ (W 9 rfl)) (mvT hZ (W 10 rfl)) (by decide) (StrChars.Road.backV (W := 1) hZ hws39 (kI := 4) (W 5 rfl) (cs := ([(nar .char ((pz &&& (255 : Int32)).toUInt32.toUInt16.toUInt32.toInt32))] : List Int32)) (bs := (([(nar .char ((pz &&& (255 : Int32)).toUInt32.toUInt16.toUInt32.toInt32))] : List Int32)).map (fun c => c.toInt8.toInt32)) (n := 1) g_b32 Z38 f40 f41 f42 V37 (O_cs.ext O38.2) P_cs rfl rfl (by decide) (by decide) hp39 rfl (by decide) (by decide)) (g := (mkF m 59 #[.val (.int pz), .val (.int q), .val (.int ((pz &&& (255 : Int32)).toUInt32.toUInt16.toUInt32.toInt32)), .val (.int ((((pz.toUInt32 >>> ((8 : Int32) &&& 31).toUInt32).toInt32) &&& (255 : Int32)).toUInt32.toUInt16.toUInt32.toInt32)), .val (.int ((((pz.toUInt32 >>> ((16 : Int32) &&& 31).toUInt32).toInt32) &&& (255 : Int32)).toUInt32.toUInt16.toUInt32.toInt32))] [(.ref b34), (.ref b32), (.ref b32)])) rfl (by rw [hml]; rfl) (Steps.refl _) (a := b32) (argsL := [(.ref b34)]) (rest := [(.ref b32)]) (lenOf pd___C_V rfl) rfl (by show 2 * 0 + _ ≤ _; exact Nat.le_of_eq rfl) (hb hby dx_method_4_code_59) (fun _ _ => ⟨rfl, e37, (by decide : 2 + 1 ≤ _), (by decide : 5 + 1 ≤ _)⟩)
  dsimp only [Pt.U, Pt.locs, Pt.cells, Pt.slots] at X39 l39 y39 z39 st39 hQ39
  subst l39 y39 z39
  obtain ⟨rfl, N39q, K39, E39x, C39x, t39, kb39, gt39, lt39, nt39, V39x, B39x⟩ := hQ39
  have N39 := Fr.app N37 N39q
  have Z43 : n0 ≤ T39.heap.size := Nat.le_trans Z38 K39.1
  have K0_43 : Keep h0 T39.heap [] := K0_38.trans K39 (allS (Or.inr l0_b32) all0)
  have O43 : Old Z n0 T39.heap := O38.keep K39 (allS g_b32 all0)
  have R43 : CHr Z own_EL s.vm h0 s.vm T39.heap := R38.trans (CHr.keep K39 (sfS (own_safeS hZ.alike f40 f41) sf0) R38.1)
  have hk43 : h0.size ≤ T39.heap.size := Nat.le_trans hk38 K39.1
  have lo_t39 : h37.size ≤ t39 := lt39
  have g_t39 : n0 ≤ t39 := Nat.le_trans Z38 lo_t39
  have l0_t39 : h0.size ≤ t39 := Nat.le_trans K0_38.1 lo_t39
  obtain ⟨fs, hr, hrun, hended, hend⟩ := Jvm.Stand.leaveW (v := some (.ref b32)) X39 hS0 hk43 (fun h => by rw [Bd.returns] at h; cases h)
  have hFin := R43.trans (CHv.at X39 hZ hEL R43.1)
  refine ⟨_, _, pre0 _ ?_, hrun, hended, _, _, rfl, ?_, ?_, own_mono hend (Nat.le_of_ble_eq_true rfl) (Nat.le_of_ble_eq_true rfl)⟩
  · show Steps p.tables e below (s₁.setTop (mkF m 0 #[.val (.int pz), .val (.int q), .unset, .unset, .unset] [])) _
    refine XS.iloadN X0.here hx rfl (hb hby dx_method_4_code_0) rfl ?_
    refine XS.sipush X0.here hx rfl (hb hby dx_method_4_code_1) ?_
    refine XS.iand X0.here hx rfl (hb hby dx_method_4_code_4) rfl ?_
    refine XS.i2c X0.here hx rfl (hb hby dx_method_4_code_5) rfl ?_
    refine XS.istoreN X0.here hx rfl (hb hby dx_method_4_code_6) rfl (l' := #[.val (.int pz), .val (.int q), .val (.int ((pz &&& (255 : Int32)).toUInt32.toUInt16.toUInt32.toInt32)), .unset, .unset]) rfl ?_
    refine XS.iloadN X0.here hx rfl (hb hby dx_method_4_code_7) rfl ?_
    refine XS.bipush X0.here hx rfl (hb hby dx_method_4_code_8) ?_
    refine XS.iushr X0.here hx rfl (hb hby dx_method_4_code_10) rfl ?_
    show Steps p.tables e below (s₁.setTop (mkF m 11 #[.val (.int pz), .val (.int q), .val (.int ((pz &&& (255 : Int32)).toUInt32.toUInt16.toUInt32.toInt32)), .unset, .unset] [(.int ((pz.toUInt32 >>> ((8 : Int32) &&& 31).toUInt32).toInt32))])) _
    refine XS.sipush X0.here hx rfl (hb hby dx_method_4_code_11) ?_
    refine XS.iand X0.here hx rfl (hb hby dx_method_4_code_14) rfl ?_
    refine XS.i2c X0.here hx rfl (hb hby dx_method_4_code_15) rfl ?_
    refine XS.istoreN X0.here hx rfl (hb hby dx_method_4_code_16) rfl (l' := #[.val (.int pz), .val (.int q), .val (.int ((pz &&& (255 : Int32)).toUInt32.toUInt16.toUInt32.toInt32)), .val (.int ((((pz.toUInt32 >>> ((8 : Int32) &&& 31).toUInt32).toInt32) &&& (255 : Int32)).toUInt32.toUInt16.toUInt32.toInt32)), .unset]) rfl ?_
    refine XS.iloadN X0.here hx rfl (hb hby dx_method_4_code_17) rfl ?_
    refine XS.bipush X0.here hx rfl (hb hby dx_method_4_code_18) ?_
    refine XS.iushr X0.here hx rfl (hb hby dx_method_4_code_20) rfl ?_
    refine XS.sipush X0.here hx rfl (hb hby dx_method_4_code_21) ?_
    show Steps p.tables e below (s₁.setTop (mkF m 24 #[.val (.int pz), .val (.int q), .val (.int ((pz &&& (255 : Int32)).toUInt32.toUInt16.toUInt32.toInt32)), .val (.int ((((pz.toUInt32 >>> ((8 : Int32) &&& 31).toUInt32).toInt32) &&& (255 : Int32)).toUInt32.toUInt16.toUInt32.toInt32)), .unset] [(.int (255 : Int32)), (.int ((pz.toUInt32 >>> ((16 : Int32) &&& 31).toUInt32).toInt32))])) _
    refine XS.iand X0.here hx rfl (hb hby dx_method_4_code_24) rfl ?_
    refine XS.i2c X0.here hx rfl (hb hby dx_method_4_code_25) rfl ?_
    refine XS.istore X0.here hx rfl (hb hby dx_method_4_code_26) rfl (l' := #[.val (.int pz), .val (.int q), .val (.int ((pz &&& (255 : Int32)).toUInt32.toUInt16.toUInt32.toInt32)), .val (.int ((((pz.toUInt32 >>> ((8 : Int32) &&& 31).toUInt32).toInt32) &&& (255 : Int32)).toUInt32.toUInt16.toUInt32.toInt32)), .val (.int ((((pz.toUInt32 >>> ((16 : Int32) &&& 31).toUInt32).toInt32) &&& (255 : Int32)).toUInt32.toUInt16.toUInt32.toInt32))]) rfl ?_
    refine XS.iloadN X0.here hx rfl (hb hby dx_method_4_code_28) rfl ?_
    refine XS.ifYes X0.here hx rfl (pc0 := 29) (pc' := 43) rfl (hb hby dx_method_4_code_29) rfl ((if0 _ _).trans (feq (hc29 : ¬ (q = (0 : Int32)))).2) (by decide) (by decide) ?_
    refine XS.iloadN X0.here hx rfl (hb hby dx_method_4_code_43) rfl ?_
    refine XS.iconst X0.here hx rfl (hb hby dx_method_4_code_44) ?_
    refine XS.icmpNo X0.here hx rfl (hb hby dx_method_4_code_45) rfl (teq (hc45 : q = (1 : Int32))).2 ?_
    show Steps p.tables e below (s₁.setTop (mkF m 48 #[.val (.int pz), .val (.int q), .val (.int ((pz &&& (255 : Int32)).toUInt32.toUInt16.toUInt32.toInt32)), .val (.int ((((pz.toUInt32 >>> ((8 : Int32) &&& 31).toUInt32).toInt32) &&& (255 : Int32)).toUInt32.toUInt16.toUInt32.toInt32)), .val (.int ((((pz.toUInt32 >>> ((16 : Int32) &&& 31).toUInt32).toInt32) &&& (255 : Int32)).toUInt32.toUInt16.toUInt32.toInt32))] [])) _
    refine st32 _ ?_
    show Steps p.tables e below (T32.setTop (mkF m 51 #[.val (.int pz), .val (.int q), .val (.int ((pz &&& (255 : Int32)).toUInt32.toUInt16.toUInt32.toInt32)), .val (.int ((((pz.toUInt32 >>> ((8 : Int32) &&& 31).toUInt32).toInt32) &&& (255 : Int32)).toUInt32.toUInt16.toUInt32.toInt32)), .val (.int ((((pz.toUInt32 >>> ((16 : Int32) &&& 31).toUInt32).toInt32) &&& (255 : Int32)).toUInt32.toUInt16.toUInt32.toInt32))] [(.ref b32)])) _
    refine XS.dup X32.here hx rfl (hb hby dx_method_4_code_51) rfl rfl ?_
    refine XS.iconst X32.here hx rfl (hb hby dx_method_4_code_52) ?_
    refine st34 _ ?_
    show Steps p.tables e below (T34.setTop (mkF m 55 #[.val (.int pz), .val (.int q), .val (.int ((pz &&& (255 : Int32)).toUInt32.toUInt16.toUInt32.toInt32)), .val (.int ((((pz.toUInt32 >>> ((8 : Int32) &&& 31).toUInt32).toInt32) &&& (255 : Int32)).toUInt32.toUInt16.toUInt32.toInt32)), .val (.int ((((pz.toUInt32 >>> ((16 : Int32) &&& 31).toUInt32).toInt32) &&& (255 : Int32)).toUInt32.toUInt16.toUInt32.toInt32))] [(.ref b34), (.ref b32), (.ref b32)])) _
    refine XS.dup X34.here hx rfl (hb hby dx_method_4_code_55) rfl rfl ?_
    refine XS.iconst X34.here hx rfl (hb hby dx_method_4_code_56) ?_
    refine XS.iloadN X34.here hx rfl (hb hby dx_method_4_code_57) rfl ?_
    refine st37 _ ?_
    show Steps p.tables e below (T37.setTop (mkF m 59 #[.val (.int pz), .val (.int q), .val (.int ((pz &&& (255 : Int32)).toUInt32.toUInt16.toUInt32.toInt32)), .val (.int ((((pz.toUInt32 >>> ((8 : Int32) &&& 31).toUInt32).toInt32) &&& (255 : Int32)).toUInt32.toUInt16.toUInt32.toInt32)), .val (.int ((((pz.toUInt32 >>> ((16 : Int32) &&& 31).toUInt32).toInt32) &&& (255 : Int32)).toUInt32.toUInt16.toUInt32.toInt32))] [(.ref b34), (.ref b32), (.ref b32)])) _
    refine st39.trans ?_
    show Steps p.tables e below (T39.setTop (mkF m 62 #[.val (.int pz), .val (.int q), .val (.int ((pz &&& (255 : Int32)).toUInt32.toUInt16.toUInt32.toInt32)), .val (.int ((((pz.toUInt32 >>> ((8 : Int32) &&& 31).toUInt32).toInt32) &&& (255 : Int32)).toUInt32.toUInt16.toUInt32.toInt32)), .val (.int ((((pz.toUInt32 >>> ((16 : Int32) &&& 31).toUInt32).toInt32) &&& (255 : Int32)).toUInt32.toUInt16.toUInt32.toInt32))] [(.ref b32)])) _
    exact retOut X39 hx Bd.returns rfl (Or.inr (Or.inr (Or.inr (Or.inr ⟨rfl, rfl, rfl⟩)))) (hb hby dx_method_4_code_62) hr
  · show Qstr Z G1 pz q h0 n0 _ T39.heap _
    exact ⟨b32, rfl, N39, K0_43, l0_b32, E39x⟩
  · show CHr Z own_EL s.vm s.heap T39.vm T39.heap
    rw [hh]
    exact hFin
set_option maxRecDepth 65536 in
set_option maxHeartbeats 40000000 in
theorem rmstr_2 (l : Launch) (Z : State) (a0 : Array Value) (G1 : Int32) (hG : Glob Z a0 G1) (ws : List Jvm.Cond) (pz : Int32) (q : Int32) (h0 : Heap) (n0 : Nat) (Z0 : n0 ≤ h0.size) (X00 : Old Z n0 h0) (hc29 : ¬ (q = (0 : Int32))) (hc45 : ¬ (q = (1 : Int32))) (hc65 : q = (2 : Int32)) :
    MetFree l y3 (head1 (Jvm.Cond.code y3 method_4_code 5 (some (.object "java/lang/String")) :: ws) ({ frames := 4, cells := 6, slots := 12, locals := 66 } : Room)) (fun a U => a = #[(.int pz), (.int q)] ∧ Z.Warmed39 U.vm ∧ U.heap = h0 ∧ CHv Z own_EL U.vm h0) (fun _ _ _ _ _ => True) (fun _ U o U' => ∃ v L, o = .returned v ∧ Qstr Z G1 pz q h0 n0 v U'.heap L ∧ CHr Z own_EL U.vm U.heap U'.vm U'.heap ∧ ReturnedEndW U o U' L ({ frames := 4, cells := 6, slots := 12, locals := 66 } : Room).cells ({ frames := 4, cells := 6, slots := 12, locals := 66 } : Room).slots) := by
  obtain ⟨hw, O_cs, P_cs⟩ := id hG
  have W : ∀ (i : Nat) {d : Jvm.Cond}, tables_1[i]? = some d → d.before a0 Z = true := fun i d h => hw d (List.mem_of_getElem? h)
  refine MetFree.of_bodySF (plainFor_of_name pn_com_example_larkbridge_larkbridge_mcp_McpResourceContentsBinaryPinLaw) hisR ?_
  intro p e s m args below meth c s₁ Bd hml0 hP hK
  obtain ⟨rfl, hZ, hh, hCH⟩ := hP
  have hx := Bd.exec
  have hby := Bd.bytes
  have hml : c.maxLocals = 5 := hml0
  have hown : s.vm.findClass "com/example/larkbridge/larkbridge/mcp/McpResourceContentsBinaryPinLaw" = some m.cls := findClass_of_methodNamed Bd.named
  have hnm := (name_of_methodNamed Bd.named Bd.method).1
  have X0 : Stand p l e ({ frames := 4, cells := 6, slots := 12, locals := 66 } : Room) (s.setVm s.vm) m #[(.int pz), (.int q)] below meth c s₁ [] 0 0 := Stand.of_body Bd
  have e0 : s₁.heap = h0 := by rw [← hh, Bd.state]; rfl
  have hS0 : s.Since s.vm h0.size := (State.WarmedH.refl s).since _
  have hk0 : h0.size ≤ h0.size := Nat.le_refl _
  have R0 : CHr Z own_EL s.vm h0 s.vm h0 := CHr.refl hCH
  have hEL := own_ew hw
  have N0 := Fr.nil n0
  have pre0 : ∀ t, Steps p.tables e below (s₁.setTop (mkF m 0 #[.val (.int pz), .val (.int q), .unset, .unset, .unset] [])) t → Steps p.tables e below (s₁.setTop (entryFrame m #[(.int pz), (.int q)] 5)) t := fun t kk_ => castTop (ef_method_4_code_II m pz q) kk_
  obtain ⟨T44, h44, X44, e44, E44, A44, D44, -, st44⟩ := newO X0 hx hZ hown (W 4 rfl) (W 5 rfl) (W 6 rfl) e0 (g := (mkF m 68 #[.val (.int pz), .val (.int q), .val (.int ((pz &&& (255 : Int32)).toUInt32.toUInt16.toUInt32.toInt32)), .val (.int ((((pz.toUInt32 >>> ((8 : Int32) &&& 31).toUInt32).toInt32) &&& (255 : Int32)).toUInt32.toUInt16.toUInt32.toInt32)), .val (.int ((((pz.toUInt32 >>> ((16 : Int32) &&& 31).toUInt32).toInt32) &&& (255 : Int32)).toUInt32.toUInt16.toUInt32.toInt32))] [])) rfl (hb hby dx_method_4_code_68) (by decide) (by decide)
  obtain ⟨b44, g44⟩ : ∃ z, z = h0.size := ⟨_, rfl⟩
  rw [← g44] at A44 D44 st44
  have Z45 : n0 ≤ h44.size := Nat.le_trans Z0 E44.1
  have K0_45 : Keep h0 h44 [] := (Keep.refl h0 []).ext E44
  have O45 : Old Z n0 h44 := X00.ext E44
  have R45 : CHr Z own_EL s.vm h0 s.vm h44 := R0.trans (CHr.ext E44 R0.1)
  have hk45 : h0.size ≤ h44.size := Nat.le_trans hk0 E44.1
  have lo_b44 : h0.size ≤ b44 := Nat.le_of_eq g44.symm
  have g_b44 : n0 ≤ b44 := Nat.le_trans Z0 lo_b44
  have l0_b44 : h0.size ≤ b44 := Nat.le_trans (Keep.refl h0 []).1 lo_b44
  have F_coder_b44 : Fld Z h44 b44 "java/lang/String" "coder" "B" (.int (0 : Int32)) := D44 (Or.inr (W 31 rfl)) (ty := .byte) (by decide)
  have F_value_b44 : Fld Z h44 b44 "java/lang/String" "value" "[B" .null := D44 (Or.inr (W 33 rfl)) (ty := (.array .byte)) (by decide)
  obtain ⟨T46, h46, k46, X46, e46, E46, A46, st46⟩ := newP X44 hx hZ (W 7 rfl) e44 (g := (mkF m 73 #[.val (.int pz), .val (.int q), .val (.int ((pz &&& (255 : Int32)).toUInt32.toUInt16.toUInt32.toInt32)), .val (.int ((((pz.toUInt32 >>> ((8 : Int32) &&& 31).toUInt32).toInt32) &&& (255 : Int32)).toUInt32.toUInt16.toUInt32.toInt32)), .val (.int ((((pz.toUInt32 >>> ((16 : Int32) &&& 31).toUInt32).toInt32) &&& (255 : Int32)).toUInt32.toUInt16.toUInt32.toInt32))] [(.int (2 : Int32)), (.ref b44), (.ref b44)])) rfl (hb hby dx_method_4_code_73) rfl (by decide) (cap := 2) (by decide) (by decide) (by decide) (by decide)
  obtain ⟨b46, g46⟩ : ∃ z, z = h44.size := ⟨_, rfl⟩
  rw [← g46] at A46 st46
  have Z47 : n0 ≤ h46.size := Nat.le_trans Z45 E46.1
  have K0_47 : Keep h0 h46 [] := K0_45.ext E46
  have O47 : Old Z n0 h46 := O45.ext E46
  have R47 : CHr Z own_EL s.vm h0 s.vm h46 := R45.trans (CHr.ext E46 R45.1)
  have hk47 : h0.size ≤ h46.size := Nat.le_trans hk45 E46.1
  have lo_b46 : h44.size ≤ b46 := Nat.le_of_eq g46.symm
  have g_b46 : n0 ≤ b46 := Nat.le_trans Z45 lo_b46
  have l0_b46 : h0.size ≤ b46 := Nat.le_trans K0_45.1 lo_b46
  have V_b46 : Arv Z h46 b46 k46 .char (2 : Int32) [(.int (0 : Int32)), (.int (0 : Int32))] (.int (0 : Int32)) := (Arv.new A46 (by decide)).pad (pad_rep [] (.int (0 : Int32)) 2)
  obtain ⟨clq48, Arq48, qaq48, Sq48, Nq48, Hq48, Gq48⟩ := id V_b46
  have hinq48 : ¬ ((0 : Int32) < 0 ∨ clq48.slots.size ≤ ((0 : Int32)).toNatClampNeg) := inb_of Sq48 ⟨by decide, by decide⟩
  obtain ⟨T49, h49, X49, e49, W49, st49⟩ := stC X46 hx hZ e46 Arq48 (j := (0 : Int32)) hinq48 (g := (mkF m 78 #[.val (.int pz), .val (.int q), .val (.int ((pz &&& (255 : Int32)).toUInt32.toUInt16.toUInt32.toInt32)), .val (.int ((((pz.toUInt32 >>> ((8 : Int32) &&& 31).toUInt32).toInt32) &&& (255 : Int32)).toUInt32.toUInt16.toUInt32.toInt32)), .val (.int ((((pz.toUInt32 >>> ((16 : Int32) &&& 31).toUInt32).toInt32) &&& (255 : Int32)).toUInt32.toUInt16.toUInt32.toInt32))] [(.int ((pz &&& (255 : Int32)).toUInt32.toUInt16.toUInt32.toInt32)), (.int (0 : Int32)), (.ref b46), (.ref b46), (.ref b44), (.ref b44)])) rfl rfl (hb hby dx_method_4_code_78)
  have V49 : Arv Z h49 b46 k46 .char (2 : Int32) [(.int (nar .char ((pz &&& (255 : Int32)).toUInt32.toUInt16.toUInt32.toInt32))), (.int (0 : Int32))] (.int (0 : Int32)) := Arv.set Arq48 qaq48 Sq48 Nq48 Hq48 Gq48 (fits_nar_char _) W49 0 rfl (Nat.le_of_ble_eq_true rfl)
  have Z50 : n0 ≤ h49.size := Nat.le_trans Z47 (Keep.of_wr W49).1
  have K0_50 : Keep h0 h49 [] := K0_47.wr W49 (Or.inr l0_b46)
  have O50 : Old Z n0 h49 := O47.wr W49 g_b46
  have R50 : CHr Z own_EL s.vm h0 s.vm h49 := R47.trans (CHr.wr W49 (Safe.arv hZ.alike V_b46 (by decide)) R47.1)
  have hk50 : h0.size ≤ h49.size := Nat.le_trans hk47 (Keep.of_wr W49).1
  have N49 := Fr.snoc X49 N0 g_b46
  obtain ⟨clq51, Arq51, qaq51, Sq51, Nq51, Hq51, Gq51⟩ := id V49
  have hinq51 : ¬ ((1 : Int32) < 0 ∨ clq51.slots.size ≤ ((1 : Int32)).toNatClampNeg) := inb_of Sq51 ⟨by decide, by decide⟩
  obtain ⟨T52, h52, X52, e52, W52, st52⟩ := stC X49 hx hZ e49 Arq51 (j := (1 : Int32)) hinq51 (g := (mkF m 82 #[.val (.int pz), .val (.int q), .val (.int ((pz &&& (255 : Int32)).toUInt32.toUInt16.toUInt32.toInt32)), .val (.int ((((pz.toUInt32 >>> ((8 : Int32) &&& 31).toUInt32).toInt32) &&& (255 : Int32)).toUInt32.toUInt16.toUInt32.toInt32)), .val (.int ((((pz.toUInt32 >>> ((16 : Int32) &&& 31).toUInt32).toInt32) &&& (255 : Int32)).toUInt32.toUInt16.toUInt32.toInt32))] [(.int ((((pz.toUInt32 >>> ((8 : Int32) &&& 31).toUInt32).toInt32) &&& (255 : Int32)).toUInt32.toUInt16.toUInt32.toInt32)), (.int (1 : Int32)), (.ref b46), (.ref b46), (.ref b44), (.ref b44)])) rfl rfl (hb hby dx_method_4_code_82)
  have V52 : Arv Z h52 b46 k46 .char (2 : Int32) [(.int (nar .char ((pz &&& (255 : Int32)).toUInt32.toUInt16.toUInt32.toInt32))), (.int (nar .char ((((pz.toUInt32 >>> ((8 : Int32) &&& 31).toUInt32).toInt32) &&& (255 : Int32)).toUInt32.toUInt16.toUInt32.toInt32)))] (.int (0 : Int32)) := Arv.set Arq51 qaq51 Sq51 Nq51 Hq51 Gq51 (fits_nar_char _) W52 1 rfl (Nat.le_of_ble_eq_true rfl)
  have Z53 : n0 ≤ h52.size := Nat.le_trans Z50 (Keep.of_wr W52).1
  have K0_53 : Keep h0 h52 [] := K0_50.wr W52 (Or.inr l0_b46)
  have O53 : Old Z n0 h52 := O50.wr W52 g_b46
  have R53 : CHr Z own_EL s.vm h0 s.vm h52 := R50.trans (CHr.wr W52 (Safe.arv hZ.alike V49 (by decide)) R50.1)
  have hk53 : h0.size ≤ h52.size := Nat.le_trans hk50 (Keep.of_wr W52).1
  have N52 := Fr.snoc X52 N49 g_b46
  have hws54 := own_hws hw
  have hp54 : ∀ c ∈ ([(nar .char ((pz &&& (255 : Int32)).toUInt32.toUInt16.toUInt32.toInt32)), (nar .char ((((pz.toUInt32 >>> ((8 : Int32) &&& 31).toUInt32).toInt32) &&& (255 : Int32)).toUInt32.toUInt16.toUInt32.toInt32))] : List Int32), ¬ c < 0 ∧ ¬ (255 : Int32) < c := by
    intro c hc
    simp only [List.mem_cons, List.not_mem_nil, or_false] at hc
    rcases hc with rfl | rfl <;> exact own_char255 _
  have f55 := (((A44.ext E46).wr W49).wr W52)
  have f56 := (((F_value_b44.ext E46).other W49 (Or.inl (Nat.ne_of_lt (Nat.lt_of_lt_of_le A44.lt lo_b46)))).other W52 (Or.inl (Nat.ne_of_lt (Nat.lt_of_lt_of_le A44.lt lo_b46))))
  have f57 := (((F_coder_b44.ext E46).other W49 (Or.inl (Nat.ne_of_lt (Nat.lt_of_lt_of_le A44.lt lo_b46)))).other W52 (Or.inl (Nat.ne_of_lt (Nat.lt_of_lt_of_le A44.lt lo_b46))))
  -- pc 83: java/lang/String.<init>
  obtain ⟨_, _, ⟨T54, L54, k54, n54⟩, -, X54, ⟨Lc54, hQ54, l54, y54, z54⟩, st54⟩ := X52.specialBack hx (y := y1) rfl hown (mvT hZ (W 8 rfl)) (mvT hZ (W 9 rfl)) (mvT hZ (W 10 rfl)) (by decide) (StrChars.Road.backV (W := 1) hZ hws54 (kI := 4) (W 5 rfl) (cs := ([(nar .char ((pz &&& (255 : Int32)).toUInt32.toUInt16.toUInt32.toInt32)), (nar .char ((((pz.toUInt32 >>> ((8 : Int32) &&& 31).toUInt32).toInt32) &&& (255 : Int32)).toUInt32.toUInt16.toUInt32.toInt32))] : List Int32)) (bs := (([(nar .char ((pz &&& (255 : Int32)).toUInt32.toUInt16.toUInt32.toInt32)), (nar .char ((((pz.toUInt32 >>> ((8 : Int32) &&& 31).toUInt32).toInt32) &&& (255 : Int32)).toUInt32.toUInt16.toUInt32.toInt32))] : List Int32)).map (fun c => c.toInt8.toInt32)) (n := 2) g_b44 Z53 f55 f56 f57 V52 (O_cs.ext O53.2) P_cs rfl rfl (by decide) (by decide) hp54 rfl (by decide) (by decide)) (g := (mkF m 83 #[.val (.int pz), .val (.int q), .val (.int ((pz &&& (255 : Int32)).toUInt32.toUInt16.toUInt32.toInt32)), .val (.int ((((pz.toUInt32 >>> ((8 : Int32) &&& 31).toUInt32).toInt32) &&& (255 : Int32)).toUInt32.toUInt16.toUInt32.toInt32)), .val (.int ((((pz.toUInt32 >>> ((16 : Int32) &&& 31).toUInt32).toInt32) &&& (255 : Int32)).toUInt32.toUInt16.toUInt32.toInt32))] [(.ref b46), (.ref b44), (.ref b44)])) rfl (by rw [hml]; rfl) (Steps.refl _) (a := b44) (argsL := [(.ref b46)]) (rest := [(.ref b44)]) (lenOf pd___C_V rfl) rfl (by show 2 * 0 + _ ≤ _; exact Nat.le_of_eq rfl) (hb hby dx_method_4_code_83) (fun _ _ => ⟨rfl, e52, (by decide : 2 + 1 ≤ _), (by decide : 6 + 2 ≤ _)⟩)
  dsimp only [Pt.U, Pt.locs, Pt.cells, Pt.slots] at X54 l54 y54 z54 st54 hQ54
  subst l54 y54 z54
  obtain ⟨rfl, N54q, K54, E54x, C54x, t54, kb54, gt54, lt54, nt54, V54x, B54x⟩ := hQ54
  have N54 := Fr.app N52 N54q
  have Z58 : n0 ≤ T54.heap.size := Nat.le_trans Z53 K54.1
  have K0_58 : Keep h0 T54.heap [] := K0_53.trans K54 (allS (Or.inr l0_b44) all0)
  have O58 : Old Z n0 T54.heap := O53.keep K54 (allS g_b44 all0)
  have R58 : CHr Z own_EL s.vm h0 s.vm T54.heap := R53.trans (CHr.keep K54 (sfS (own_safeS hZ.alike f55 f56) sf0) R53.1)
  have hk58 : h0.size ≤ T54.heap.size := Nat.le_trans hk53 K54.1
  have lo_t54 : h52.size ≤ t54 := lt54
  have g_t54 : n0 ≤ t54 := Nat.le_trans Z53 lo_t54
  have l0_t54 : h0.size ≤ t54 := Nat.le_trans K0_53.1 lo_t54
  obtain ⟨fs, hr, hrun, hended, hend⟩ := Jvm.Stand.leaveW (v := some (.ref b44)) X54 hS0 hk58 (fun h => by rw [Bd.returns] at h; cases h)
  have hFin := R58.trans (CHv.at X54 hZ hEL R58.1)
  refine ⟨_, _, pre0 _ ?_, hrun, hended, _, _, rfl, ?_, ?_, own_mono hend (Nat.le_of_ble_eq_true rfl) (Nat.le_of_ble_eq_true rfl)⟩
  · show Steps p.tables e below (s₁.setTop (mkF m 0 #[.val (.int pz), .val (.int q), .unset, .unset, .unset] [])) _
    refine XS.iloadN X0.here hx rfl (hb hby dx_method_4_code_0) rfl ?_
    refine XS.sipush X0.here hx rfl (hb hby dx_method_4_code_1) ?_
    refine XS.iand X0.here hx rfl (hb hby dx_method_4_code_4) rfl ?_
    refine XS.i2c X0.here hx rfl (hb hby dx_method_4_code_5) rfl ?_
    refine XS.istoreN X0.here hx rfl (hb hby dx_method_4_code_6) rfl (l' := #[.val (.int pz), .val (.int q), .val (.int ((pz &&& (255 : Int32)).toUInt32.toUInt16.toUInt32.toInt32)), .unset, .unset]) rfl ?_
    refine XS.iloadN X0.here hx rfl (hb hby dx_method_4_code_7) rfl ?_
    refine XS.bipush X0.here hx rfl (hb hby dx_method_4_code_8) ?_
    refine XS.iushr X0.here hx rfl (hb hby dx_method_4_code_10) rfl ?_
    show Steps p.tables e below (s₁.setTop (mkF m 11 #[.val (.int pz), .val (.int q), .val (.int ((pz &&& (255 : Int32)).toUInt32.toUInt16.toUInt32.toInt32)), .unset, .unset] [(.int ((pz.toUInt32 >>> ((8 : Int32) &&& 31).toUInt32).toInt32))])) _
    refine XS.sipush X0.here hx rfl (hb hby dx_method_4_code_11) ?_
    refine XS.iand X0.here hx rfl (hb hby dx_method_4_code_14) rfl ?_
    refine XS.i2c X0.here hx rfl (hb hby dx_method_4_code_15) rfl ?_
    refine XS.istoreN X0.here hx rfl (hb hby dx_method_4_code_16) rfl (l' := #[.val (.int pz), .val (.int q), .val (.int ((pz &&& (255 : Int32)).toUInt32.toUInt16.toUInt32.toInt32)), .val (.int ((((pz.toUInt32 >>> ((8 : Int32) &&& 31).toUInt32).toInt32) &&& (255 : Int32)).toUInt32.toUInt16.toUInt32.toInt32)), .unset]) rfl ?_
    refine XS.iloadN X0.here hx rfl (hb hby dx_method_4_code_17) rfl ?_
    refine XS.bipush X0.here hx rfl (hb hby dx_method_4_code_18) ?_
    refine XS.iushr X0.here hx rfl (hb hby dx_method_4_code_20) rfl ?_
    refine XS.sipush X0.here hx rfl (hb hby dx_method_4_code_21) ?_
    show Steps p.tables e below (s₁.setTop (mkF m 24 #[.val (.int pz), .val (.int q), .val (.int ((pz &&& (255 : Int32)).toUInt32.toUInt16.toUInt32.toInt32)), .val (.int ((((pz.toUInt32 >>> ((8 : Int32) &&& 31).toUInt32).toInt32) &&& (255 : Int32)).toUInt32.toUInt16.toUInt32.toInt32)), .unset] [(.int (255 : Int32)), (.int ((pz.toUInt32 >>> ((16 : Int32) &&& 31).toUInt32).toInt32))])) _
    refine XS.iand X0.here hx rfl (hb hby dx_method_4_code_24) rfl ?_
    refine XS.i2c X0.here hx rfl (hb hby dx_method_4_code_25) rfl ?_
    refine XS.istore X0.here hx rfl (hb hby dx_method_4_code_26) rfl (l' := #[.val (.int pz), .val (.int q), .val (.int ((pz &&& (255 : Int32)).toUInt32.toUInt16.toUInt32.toInt32)), .val (.int ((((pz.toUInt32 >>> ((8 : Int32) &&& 31).toUInt32).toInt32) &&& (255 : Int32)).toUInt32.toUInt16.toUInt32.toInt32)), .val (.int ((((pz.toUInt32 >>> ((16 : Int32) &&& 31).toUInt32).toInt32) &&& (255 : Int32)).toUInt32.toUInt16.toUInt32.toInt32))]) rfl ?_
    refine XS.iloadN X0.here hx rfl (hb hby dx_method_4_code_28) rfl ?_
    refine XS.ifYes X0.here hx rfl (pc0 := 29) (pc' := 43) rfl (hb hby dx_method_4_code_29) rfl ((if0 _ _).trans (feq (hc29 : ¬ (q = (0 : Int32)))).2) (by decide) (by decide) ?_
    refine XS.iloadN X0.here hx rfl (hb hby dx_method_4_code_43) rfl ?_
    refine XS.iconst X0.here hx rfl (hb hby dx_method_4_code_44) ?_
    refine XS.icmpYes X0.here hx rfl (pc0 := 45) (pc' := 63) rfl (hb hby dx_method_4_code_45) rfl (feq (hc45 : ¬ (q = (1 : Int32)))).2 (by decide) (by decide) ?_
    show Steps p.tables e below (s₁.setTop (mkF m 63 #[.val (.int pz), .val (.int q), .val (.int ((pz &&& (255 : Int32)).toUInt32.toUInt16.toUInt32.toInt32)), .val (.int ((((pz.toUInt32 >>> ((8 : Int32) &&& 31).toUInt32).toInt32) &&& (255 : Int32)).toUInt32.toUInt16.toUInt32.toInt32)), .val (.int ((((pz.toUInt32 >>> ((16 : Int32) &&& 31).toUInt32).toInt32) &&& (255 : Int32)).toUInt32.toUInt16.toUInt32.toInt32))] [])) _
    refine XS.iloadN X0.here hx rfl (hb hby dx_method_4_code_63) rfl ?_
    refine XS.iconst X0.here hx rfl (hb hby dx_method_4_code_64) ?_
    refine XS.icmpNo X0.here hx rfl (hb hby dx_method_4_code_65) rfl (teq (hc65 : q = (2 : Int32))).2 ?_
    refine st44 _ ?_
    show Steps p.tables e below (T44.setTop (mkF m 71 #[.val (.int pz), .val (.int q), .val (.int ((pz &&& (255 : Int32)).toUInt32.toUInt16.toUInt32.toInt32)), .val (.int ((((pz.toUInt32 >>> ((8 : Int32) &&& 31).toUInt32).toInt32) &&& (255 : Int32)).toUInt32.toUInt16.toUInt32.toInt32)), .val (.int ((((pz.toUInt32 >>> ((16 : Int32) &&& 31).toUInt32).toInt32) &&& (255 : Int32)).toUInt32.toUInt16.toUInt32.toInt32))] [(.ref b44)])) _
    refine XS.dup X44.here hx rfl (hb hby dx_method_4_code_71) rfl rfl ?_
    refine XS.iconst X44.here hx rfl (hb hby dx_method_4_code_72) ?_
    refine st46 _ ?_
    show Steps p.tables e below (T46.setTop (mkF m 75 #[.val (.int pz), .val (.int q), .val (.int ((pz &&& (255 : Int32)).toUInt32.toUInt16.toUInt32.toInt32)), .val (.int ((((pz.toUInt32 >>> ((8 : Int32) &&& 31).toUInt32).toInt32) &&& (255 : Int32)).toUInt32.toUInt16.toUInt32.toInt32)), .val (.int ((((pz.toUInt32 >>> ((16 : Int32) &&& 31).toUInt32).toInt32) &&& (255 : Int32)).toUInt32.toUInt16.toUInt32.toInt32))] [(.ref b46), (.ref b44), (.ref b44)])) _
    refine XS.dup X46.here hx rfl (hb hby dx_method_4_code_75) rfl rfl ?_
    refine XS.iconst X46.here hx rfl (hb hby dx_method_4_code_76) ?_
    refine XS.iloadN X46.here hx rfl (hb hby dx_method_4_code_77) rfl ?_
    refine st49 _ ?_
    show Steps p.tables e below (T49.setTop (mkF m 79 #[.val (.int pz), .val (.int q), .val (.int ((pz &&& (255 : Int32)).toUInt32.toUInt16.toUInt32.toInt32)), .val (.int ((((pz.toUInt32 >>> ((8 : Int32) &&& 31).toUInt32).toInt32) &&& (255 : Int32)).toUInt32.toUInt16.toUInt32.toInt32)), .val (.int ((((pz.toUInt32 >>> ((16 : Int32) &&& 31).toUInt32).toInt32) &&& (255 : Int32)).toUInt32.toUInt16.toUInt32.toInt32))] [(.ref b46), (.ref b44), (.ref b44)])) _
    refine XS.dup X49.here hx rfl (hb hby dx_method_4_code_79) rfl rfl ?_
    refine XS.iconst X49.here hx rfl (hb hby dx_method_4_code_80) ?_
    refine XS.iloadN X49.here hx rfl (hb hby dx_method_4_code_81) rfl ?_
    refine st52 _ ?_
    show Steps p.tables e below (T52.setTop (mkF m 83 #[.val (.int pz), .val (.int q), .val (.int ((pz &&& (255 : Int32)).toUInt32.toUInt16.toUInt32.toInt32)), .val (.int ((((pz.toUInt32 >>> ((8 : Int32) &&& 31).toUInt32).toInt32) &&& (255 : Int32)).toUInt32.toUInt16.toUInt32.toInt32)), .val (.int ((((pz.toUInt32 >>> ((16 : Int32) &&& 31).toUInt32).toInt32) &&& (255 : Int32)).toUInt32.toUInt16.toUInt32.toInt32))] [(.ref b46), (.ref b44), (.ref b44)])) _
    refine st54.trans ?_
    show Steps p.tables e below (T54.setTop (mkF m 86 #[.val (.int pz), .val (.int q), .val (.int ((pz &&& (255 : Int32)).toUInt32.toUInt16.toUInt32.toInt32)), .val (.int ((((pz.toUInt32 >>> ((8 : Int32) &&& 31).toUInt32).toInt32) &&& (255 : Int32)).toUInt32.toUInt16.toUInt32.toInt32)), .val (.int ((((pz.toUInt32 >>> ((16 : Int32) &&& 31).toUInt32).toInt32) &&& (255 : Int32)).toUInt32.toUInt16.toUInt32.toInt32))] [(.ref b44)])) _
    exact retOut X54 hx Bd.returns rfl (Or.inr (Or.inr (Or.inr (Or.inr ⟨rfl, rfl, rfl⟩)))) (hb hby dx_method_4_code_86) hr
  · show Qstr Z G1 pz q h0 n0 _ T54.heap _
    exact ⟨b44, rfl, N54, K0_58, l0_b44, E54x⟩
  · show CHr Z own_EL s.vm s.heap T54.vm T54.heap
    rw [hh]
    exact hFin
set_option maxRecDepth 65536 in
set_option maxHeartbeats 40000000 in
theorem rmstr_3 (l : Launch) (Z : State) (a0 : Array Value) (G1 : Int32) (hG : Glob Z a0 G1) (ws : List Jvm.Cond) (pz : Int32) (q : Int32) (h0 : Heap) (n0 : Nat) (Z0 : n0 ≤ h0.size) (X00 : Old Z n0 h0) (hc29 : ¬ (q = (0 : Int32))) (hc45 : ¬ (q = (1 : Int32))) (hc65 : ¬ (q = (2 : Int32))) :
    MetFree l y3 (head1 (Jvm.Cond.code y3 method_4_code 5 (some (.object "java/lang/String")) :: ws) ({ frames := 4, cells := 6, slots := 12, locals := 66 } : Room)) (fun a U => a = #[(.int pz), (.int q)] ∧ Z.Warmed39 U.vm ∧ U.heap = h0 ∧ CHv Z own_EL U.vm h0) (fun _ _ _ _ _ => True) (fun _ U o U' => ∃ v L, o = .returned v ∧ Qstr Z G1 pz q h0 n0 v U'.heap L ∧ CHr Z own_EL U.vm U.heap U'.vm U'.heap ∧ ReturnedEndW U o U' L ({ frames := 4, cells := 6, slots := 12, locals := 66 } : Room).cells ({ frames := 4, cells := 6, slots := 12, locals := 66 } : Room).slots) := by
  obtain ⟨hw, O_cs, P_cs⟩ := id hG
  have W : ∀ (i : Nat) {d : Jvm.Cond}, tables_1[i]? = some d → d.before a0 Z = true := fun i d h => hw d (List.mem_of_getElem? h)
  refine MetFree.of_bodySF (plainFor_of_name pn_com_example_larkbridge_larkbridge_mcp_McpResourceContentsBinaryPinLaw) hisR ?_
  intro p e s m args below meth c s₁ Bd hml0 hP hK
  obtain ⟨rfl, hZ, hh, hCH⟩ := hP
  have hx := Bd.exec
  have hby := Bd.bytes
  have hml : c.maxLocals = 5 := hml0
  have hown : s.vm.findClass "com/example/larkbridge/larkbridge/mcp/McpResourceContentsBinaryPinLaw" = some m.cls := findClass_of_methodNamed Bd.named
  have hnm := (name_of_methodNamed Bd.named Bd.method).1
  have X0 : Stand p l e ({ frames := 4, cells := 6, slots := 12, locals := 66 } : Room) (s.setVm s.vm) m #[(.int pz), (.int q)] below meth c s₁ [] 0 0 := Stand.of_body Bd
  have e0 : s₁.heap = h0 := by rw [← hh, Bd.state]; rfl
  have hS0 : s.Since s.vm h0.size := (State.WarmedH.refl s).since _
  have hk0 : h0.size ≤ h0.size := Nat.le_refl _
  have R0 : CHr Z own_EL s.vm h0 s.vm h0 := CHr.refl hCH
  have hEL := own_ew hw
  have N0 := Fr.nil n0
  have pre0 : ∀ t, Steps p.tables e below (s₁.setTop (mkF m 0 #[.val (.int pz), .val (.int q), .unset, .unset, .unset] [])) t → Steps p.tables e below (s₁.setTop (entryFrame m #[(.int pz), (.int q)] 5)) t := fun t kk_ => castTop (ef_method_4_code_II m pz q) kk_
  obtain ⟨T59, h59, X59, e59, E59, A59, D59, -, st59⟩ := newO X0 hx hZ hown (W 4 rfl) (W 5 rfl) (W 6 rfl) e0 (g := (mkF m 87 #[.val (.int pz), .val (.int q), .val (.int ((pz &&& (255 : Int32)).toUInt32.toUInt16.toUInt32.toInt32)), .val (.int ((((pz.toUInt32 >>> ((8 : Int32) &&& 31).toUInt32).toInt32) &&& (255 : Int32)).toUInt32.toUInt16.toUInt32.toInt32)), .val (.int ((((pz.toUInt32 >>> ((16 : Int32) &&& 31).toUInt32).toInt32) &&& (255 : Int32)).toUInt32.toUInt16.toUInt32.toInt32))] [])) rfl (hb hby dx_method_4_code_87) (by decide) (by decide)
  obtain ⟨b59, g59⟩ : ∃ z, z = h0.size := ⟨_, rfl⟩
  rw [← g59] at A59 D59 st59
  have Z60 : n0 ≤ h59.size := Nat.le_trans Z0 E59.1
  have K0_60 : Keep h0 h59 [] := (Keep.refl h0 []).ext E59
  have O60 : Old Z n0 h59 := X00.ext E59
  have R60 : CHr Z own_EL s.vm h0 s.vm h59 := R0.trans (CHr.ext E59 R0.1)
  have hk60 : h0.size ≤ h59.size := Nat.le_trans hk0 E59.1
  have lo_b59 : h0.size ≤ b59 := Nat.le_of_eq g59.symm
  have g_b59 : n0 ≤ b59 := Nat.le_trans Z0 lo_b59
  have l0_b59 : h0.size ≤ b59 := Nat.le_trans (Keep.refl h0 []).1 lo_b59
  have F_coder_b59 : Fld Z h59 b59 "java/lang/String" "coder" "B" (.int (0 : Int32)) := D59 (Or.inr (W 31 rfl)) (ty := .byte) (by decide)
  have F_value_b59 : Fld Z h59 b59 "java/lang/String" "value" "[B" .null := D59 (Or.inr (W 33 rfl)) (ty := (.array .byte)) (by decide)
  obtain ⟨T61, h61, k61, X61, e61, E61, A61, st61⟩ := newP X59 hx hZ (W 7 rfl) e59 (g := (mkF m 92 #[.val (.int pz), .val (.int q), .val (.int ((pz &&& (255 : Int32)).toUInt32.toUInt16.toUInt32.toInt32)), .val (.int ((((pz.toUInt32 >>> ((8 : Int32) &&& 31).toUInt32).toInt32) &&& (255 : Int32)).toUInt32.toUInt16.toUInt32.toInt32)), .val (.int ((((pz.toUInt32 >>> ((16 : Int32) &&& 31).toUInt32).toInt32) &&& (255 : Int32)).toUInt32.toUInt16.toUInt32.toInt32))] [(.int (3 : Int32)), (.ref b59), (.ref b59)])) rfl (hb hby dx_method_4_code_92) rfl (by decide) (cap := 3) (by decide) (by decide) (by decide) (by decide)
  obtain ⟨b61, g61⟩ : ∃ z, z = h59.size := ⟨_, rfl⟩
  rw [← g61] at A61 st61
  have Z62 : n0 ≤ h61.size := Nat.le_trans Z60 E61.1
  have K0_62 : Keep h0 h61 [] := K0_60.ext E61
  have O62 : Old Z n0 h61 := O60.ext E61
  have R62 : CHr Z own_EL s.vm h0 s.vm h61 := R60.trans (CHr.ext E61 R60.1)
  have hk62 : h0.size ≤ h61.size := Nat.le_trans hk60 E61.1
  have lo_b61 : h59.size ≤ b61 := Nat.le_of_eq g61.symm
  have g_b61 : n0 ≤ b61 := Nat.le_trans Z60 lo_b61
  have l0_b61 : h0.size ≤ b61 := Nat.le_trans K0_60.1 lo_b61
  have V_b61 : Arv Z h61 b61 k61 .char (3 : Int32) [(.int (0 : Int32)), (.int (0 : Int32)), (.int (0 : Int32))] (.int (0 : Int32)) := (Arv.new A61 (by decide)).pad (pad_rep [] (.int (0 : Int32)) 3)
  obtain ⟨clq63, Arq63, qaq63, Sq63, Nq63, Hq63, Gq63⟩ := id V_b61
  have hinq63 : ¬ ((0 : Int32) < 0 ∨ clq63.slots.size ≤ ((0 : Int32)).toNatClampNeg) := inb_of Sq63 ⟨by decide, by decide⟩
  obtain ⟨T64, h64, X64, e64, W64, st64⟩ := stC X61 hx hZ e61 Arq63 (j := (0 : Int32)) hinq63 (g := (mkF m 97 #[.val (.int pz), .val (.int q), .val (.int ((pz &&& (255 : Int32)).toUInt32.toUInt16.toUInt32.toInt32)), .val (.int ((((pz.toUInt32 >>> ((8 : Int32) &&& 31).toUInt32).toInt32) &&& (255 : Int32)).toUInt32.toUInt16.toUInt32.toInt32)), .val (.int ((((pz.toUInt32 >>> ((16 : Int32) &&& 31).toUInt32).toInt32) &&& (255 : Int32)).toUInt32.toUInt16.toUInt32.toInt32))] [(.int ((pz &&& (255 : Int32)).toUInt32.toUInt16.toUInt32.toInt32)), (.int (0 : Int32)), (.ref b61), (.ref b61), (.ref b59), (.ref b59)])) rfl rfl (hb hby dx_method_4_code_97)
  have V64 : Arv Z h64 b61 k61 .char (3 : Int32) [(.int (nar .char ((pz &&& (255 : Int32)).toUInt32.toUInt16.toUInt32.toInt32))), (.int (0 : Int32)), (.int (0 : Int32))] (.int (0 : Int32)) := Arv.set Arq63 qaq63 Sq63 Nq63 Hq63 Gq63 (fits_nar_char _) W64 0 rfl (Nat.le_of_ble_eq_true rfl)
  have Z65 : n0 ≤ h64.size := Nat.le_trans Z62 (Keep.of_wr W64).1
  have K0_65 : Keep h0 h64 [] := K0_62.wr W64 (Or.inr l0_b61)
  have O65 : Old Z n0 h64 := O62.wr W64 g_b61
  have R65 : CHr Z own_EL s.vm h0 s.vm h64 := R62.trans (CHr.wr W64 (Safe.arv hZ.alike V_b61 (by decide)) R62.1)
  have hk65 : h0.size ≤ h64.size := Nat.le_trans hk62 (Keep.of_wr W64).1
  have N64 := Fr.snoc X64 N0 g_b61
  obtain ⟨clq66, Arq66, qaq66, Sq66, Nq66, Hq66, Gq66⟩ := id V64
  have hinq66 : ¬ ((1 : Int32) < 0 ∨ clq66.slots.size ≤ ((1 : Int32)).toNatClampNeg) := inb_of Sq66 ⟨by decide, by decide⟩
  obtain ⟨T67, h67, X67, e67, W67, st67⟩ := stC X64 hx hZ e64 Arq66 (j := (1 : Int32)) hinq66 (g := (mkF m 101 #[.val (.int pz), .val (.int q), .val (.int ((pz &&& (255 : Int32)).toUInt32.toUInt16.toUInt32.toInt32)), .val (.int ((((pz.toUInt32 >>> ((8 : Int32) &&& 31).toUInt32).toInt32) &&& (255 : Int32)).toUInt32.toUInt16.toUInt32.toInt32)), .val (.int ((((pz.toUInt32 >>> ((16 : Int32) &&& 31).toUInt32).toInt32) &&& (255 : Int32)).toUInt32.toUInt16.toUInt32.toInt32))] [(.int ((((pz.toUInt32 >>> ((8 : Int32) &&& 31).toUInt32).toInt32) &&& (255 : Int32)).toUInt32.toUInt16.toUInt32.toInt32)), (.int (1 : Int32)), (.ref b61), (.ref b61), (.ref b59), (.ref b59)])) rfl rfl (hb hby dx_method_4_code_101)
  have V67 : Arv Z h67 b61 k61 .char (3 : Int32) [(.int (nar .char ((pz &&& (255 : Int32)).toUInt32.toUInt16.toUInt32.toInt32))), (.int (nar .char ((((pz.toUInt32 >>> ((8 : Int32) &&& 31).toUInt32).toInt32) &&& (255 : Int32)).toUInt32.toUInt16.toUInt32.toInt32))), (.int (0 : Int32))] (.int (0 : Int32)) := Arv.set Arq66 qaq66 Sq66 Nq66 Hq66 Gq66 (fits_nar_char _) W67 1 rfl (Nat.le_of_ble_eq_true rfl)
  have Z68 : n0 ≤ h67.size := Nat.le_trans Z65 (Keep.of_wr W67).1
  have K0_68 : Keep h0 h67 [] := K0_65.wr W67 (Or.inr l0_b61)
  have O68 : Old Z n0 h67 := O65.wr W67 g_b61
  have R68 : CHr Z own_EL s.vm h0 s.vm h67 := R65.trans (CHr.wr W67 (Safe.arv hZ.alike V64 (by decide)) R65.1)
  have hk68 : h0.size ≤ h67.size := Nat.le_trans hk65 (Keep.of_wr W67).1
  have N67 := Fr.snoc X67 N64 g_b61
  obtain ⟨clq69, Arq69, qaq69, Sq69, Nq69, Hq69, Gq69⟩ := id V67
  have hinq69 : ¬ ((2 : Int32) < 0 ∨ clq69.slots.size ≤ ((2 : Int32)).toNatClampNeg) := inb_of Sq69 ⟨by decide, by decide⟩
  obtain ⟨T70, h70, X70, e70, W70, st70⟩ := stC X67 hx hZ e67 Arq69 (j := (2 : Int32)) hinq69 (g := (mkF m 106 #[.val (.int pz), .val (.int q), .val (.int ((pz &&& (255 : Int32)).toUInt32.toUInt16.toUInt32.toInt32)), .val (.int ((((pz.toUInt32 >>> ((8 : Int32) &&& 31).toUInt32).toInt32) &&& (255 : Int32)).toUInt32.toUInt16.toUInt32.toInt32)), .val (.int ((((pz.toUInt32 >>> ((16 : Int32) &&& 31).toUInt32).toInt32) &&& (255 : Int32)).toUInt32.toUInt16.toUInt32.toInt32))] [(.int ((((pz.toUInt32 >>> ((16 : Int32) &&& 31).toUInt32).toInt32) &&& (255 : Int32)).toUInt32.toUInt16.toUInt32.toInt32)), (.int (2 : Int32)), (.ref b61), (.ref b61), (.ref b59), (.ref b59)])) rfl rfl (hb hby dx_method_4_code_106)
  have V70 : Arv Z h70 b61 k61 .char (3 : Int32) [(.int (nar .char ((pz &&& (255 : Int32)).toUInt32.toUInt16.toUInt32.toInt32))), (.int (nar .char ((((pz.toUInt32 >>> ((8 : Int32) &&& 31).toUInt32).toInt32) &&& (255 : Int32)).toUInt32.toUInt16.toUInt32.toInt32))), (.int (nar .char ((((pz.toUInt32 >>> ((16 : Int32) &&& 31).toUInt32).toInt32) &&& (255 : Int32)).toUInt32.toUInt16.toUInt32.toInt32)))] (.int (0 : Int32)) := Arv.set Arq69 qaq69 Sq69 Nq69 Hq69 Gq69 (fits_nar_char _) W70 2 rfl (Nat.le_of_ble_eq_true rfl)
  have Z71 : n0 ≤ h70.size := Nat.le_trans Z68 (Keep.of_wr W70).1
  have K0_71 : Keep h0 h70 [] := K0_68.wr W70 (Or.inr l0_b61)
  have O71 : Old Z n0 h70 := O68.wr W70 g_b61
  have R71 : CHr Z own_EL s.vm h0 s.vm h70 := R68.trans (CHr.wr W70 (Safe.arv hZ.alike V67 (by decide)) R68.1)
  have hk71 : h0.size ≤ h70.size := Nat.le_trans hk68 (Keep.of_wr W70).1
  have N70 := Fr.snoc X70 N67 g_b61
  have hws72 := own_hws hw
  have hp72 : ∀ c ∈ ([(nar .char ((pz &&& (255 : Int32)).toUInt32.toUInt16.toUInt32.toInt32)), (nar .char ((((pz.toUInt32 >>> ((8 : Int32) &&& 31).toUInt32).toInt32) &&& (255 : Int32)).toUInt32.toUInt16.toUInt32.toInt32)), (nar .char ((((pz.toUInt32 >>> ((16 : Int32) &&& 31).toUInt32).toInt32) &&& (255 : Int32)).toUInt32.toUInt16.toUInt32.toInt32))] : List Int32), ¬ c < 0 ∧ ¬ (255 : Int32) < c := by
    intro c hc
    simp only [List.mem_cons, List.not_mem_nil, or_false] at hc
    rcases hc with rfl | rfl | rfl <;> exact own_char255 _
  have f73 := ((((A59.ext E61).wr W64).wr W67).wr W70)
  have f74 := ((((F_value_b59.ext E61).other W64 (Or.inl (Nat.ne_of_lt (Nat.lt_of_lt_of_le A59.lt lo_b61)))).other W67 (Or.inl (Nat.ne_of_lt (Nat.lt_of_lt_of_le A59.lt lo_b61)))).other W70 (Or.inl (Nat.ne_of_lt (Nat.lt_of_lt_of_le A59.lt lo_b61))))
  have f75 := ((((F_coder_b59.ext E61).other W64 (Or.inl (Nat.ne_of_lt (Nat.lt_of_lt_of_le A59.lt lo_b61)))).other W67 (Or.inl (Nat.ne_of_lt (Nat.lt_of_lt_of_le A59.lt lo_b61)))).other W70 (Or.inl (Nat.ne_of_lt (Nat.lt_of_lt_of_le A59.lt lo_b61))))
  -- pc 107: java/lang/String.<init>
  obtain ⟨_, _, ⟨T72, L72, k72, n72⟩, -, X72, ⟨Lc72, hQ72, l72, y72, z72⟩, st72⟩ := X70.specialBack hx (y := y1) rfl hown (mvT hZ (W 8 rfl)) (mvT hZ (W 9 rfl)) (mvT hZ (W 10 rfl)) (by decide) (StrChars.Road.backV (W := 1) hZ hws72 (kI := 4) (W 5 rfl) (cs := ([(nar .char ((pz &&& (255 : Int32)).toUInt32.toUInt16.toUInt32.toInt32)), (nar .char ((((pz.toUInt32 >>> ((8 : Int32) &&& 31).toUInt32).toInt32) &&& (255 : Int32)).toUInt32.toUInt16.toUInt32.toInt32)), (nar .char ((((pz.toUInt32 >>> ((16 : Int32) &&& 31).toUInt32).toInt32) &&& (255 : Int32)).toUInt32.toUInt16.toUInt32.toInt32))] : List Int32)) (bs := (([(nar .char ((pz &&& (255 : Int32)).toUInt32.toUInt16.toUInt32.toInt32)), (nar .char ((((pz.toUInt32 >>> ((8 : Int32) &&& 31).toUInt32).toInt32) &&& (255 : Int32)).toUInt32.toUInt16.toUInt32.toInt32)), (nar .char ((((pz.toUInt32 >>> ((16 : Int32) &&& 31).toUInt32).toInt32) &&& (255 : Int32)).toUInt32.toUInt16.toUInt32.toInt32))] : List Int32)).map (fun c => c.toInt8.toInt32)) (n := 3) g_b59 Z71 f73 f74 f75 V70 (O_cs.ext O71.2) P_cs rfl rfl (by decide) (by decide) hp72 rfl (by decide) (by decide)) (g := (mkF m 107 #[.val (.int pz), .val (.int q), .val (.int ((pz &&& (255 : Int32)).toUInt32.toUInt16.toUInt32.toInt32)), .val (.int ((((pz.toUInt32 >>> ((8 : Int32) &&& 31).toUInt32).toInt32) &&& (255 : Int32)).toUInt32.toUInt16.toUInt32.toInt32)), .val (.int ((((pz.toUInt32 >>> ((16 : Int32) &&& 31).toUInt32).toInt32) &&& (255 : Int32)).toUInt32.toUInt16.toUInt32.toInt32))] [(.ref b61), (.ref b59), (.ref b59)])) rfl (by rw [hml]; rfl) (Steps.refl _) (a := b59) (argsL := [(.ref b61)]) (rest := [(.ref b59)]) (lenOf pd___C_V rfl) rfl (by show 2 * 0 + _ ≤ _; exact Nat.le_of_eq rfl) (hb hby dx_method_4_code_107) (fun _ _ => ⟨rfl, e70, (by decide : 2 + 1 ≤ _), (by decide : 7 + 3 ≤ _)⟩)
  dsimp only [Pt.U, Pt.locs, Pt.cells, Pt.slots] at X72 l72 y72 z72 st72 hQ72
  subst l72 y72 z72
  obtain ⟨rfl, N72q, K72, E72x, C72x, t72, kb72, gt72, lt72, nt72, V72x, B72x⟩ := hQ72
  have N72 := Fr.app N70 N72q
  have Z76 : n0 ≤ T72.heap.size := Nat.le_trans Z71 K72.1
  have K0_76 : Keep h0 T72.heap [] := K0_71.trans K72 (allS (Or.inr l0_b59) all0)
  have O76 : Old Z n0 T72.heap := O71.keep K72 (allS g_b59 all0)
  have R76 : CHr Z own_EL s.vm h0 s.vm T72.heap := R71.trans (CHr.keep K72 (sfS (own_safeS hZ.alike f73 f74) sf0) R71.1)
  have hk76 : h0.size ≤ T72.heap.size := Nat.le_trans hk71 K72.1
  have lo_t72 : h70.size ≤ t72 := lt72
  have g_t72 : n0 ≤ t72 := Nat.le_trans Z71 lo_t72
  have l0_t72 : h0.size ≤ t72 := Nat.le_trans K0_71.1 lo_t72
  obtain ⟨fs, hr, hrun, hended, hend⟩ := Jvm.Stand.leaveW (v := some (.ref b59)) X72 hS0 hk76 (fun h => by rw [Bd.returns] at h; cases h)
  have hFin := R76.trans (CHv.at X72 hZ hEL R76.1)
  refine ⟨_, _, pre0 _ ?_, hrun, hended, _, _, rfl, ?_, ?_, own_mono hend (Nat.le_of_ble_eq_true rfl) (Nat.le_of_ble_eq_true rfl)⟩
  · show Steps p.tables e below (s₁.setTop (mkF m 0 #[.val (.int pz), .val (.int q), .unset, .unset, .unset] [])) _
    refine XS.iloadN X0.here hx rfl (hb hby dx_method_4_code_0) rfl ?_
    refine XS.sipush X0.here hx rfl (hb hby dx_method_4_code_1) ?_
    refine XS.iand X0.here hx rfl (hb hby dx_method_4_code_4) rfl ?_
    refine XS.i2c X0.here hx rfl (hb hby dx_method_4_code_5) rfl ?_
    refine XS.istoreN X0.here hx rfl (hb hby dx_method_4_code_6) rfl (l' := #[.val (.int pz), .val (.int q), .val (.int ((pz &&& (255 : Int32)).toUInt32.toUInt16.toUInt32.toInt32)), .unset, .unset]) rfl ?_
    refine XS.iloadN X0.here hx rfl (hb hby dx_method_4_code_7) rfl ?_
    refine XS.bipush X0.here hx rfl (hb hby dx_method_4_code_8) ?_
    refine XS.iushr X0.here hx rfl (hb hby dx_method_4_code_10) rfl ?_
    show Steps p.tables e below (s₁.setTop (mkF m 11 #[.val (.int pz), .val (.int q), .val (.int ((pz &&& (255 : Int32)).toUInt32.toUInt16.toUInt32.toInt32)), .unset, .unset] [(.int ((pz.toUInt32 >>> ((8 : Int32) &&& 31).toUInt32).toInt32))])) _
    refine XS.sipush X0.here hx rfl (hb hby dx_method_4_code_11) ?_
    refine XS.iand X0.here hx rfl (hb hby dx_method_4_code_14) rfl ?_
    refine XS.i2c X0.here hx rfl (hb hby dx_method_4_code_15) rfl ?_
    refine XS.istoreN X0.here hx rfl (hb hby dx_method_4_code_16) rfl (l' := #[.val (.int pz), .val (.int q), .val (.int ((pz &&& (255 : Int32)).toUInt32.toUInt16.toUInt32.toInt32)), .val (.int ((((pz.toUInt32 >>> ((8 : Int32) &&& 31).toUInt32).toInt32) &&& (255 : Int32)).toUInt32.toUInt16.toUInt32.toInt32)), .unset]) rfl ?_
    refine XS.iloadN X0.here hx rfl (hb hby dx_method_4_code_17) rfl ?_
    refine XS.bipush X0.here hx rfl (hb hby dx_method_4_code_18) ?_
    refine XS.iushr X0.here hx rfl (hb hby dx_method_4_code_20) rfl ?_
    refine XS.sipush X0.here hx rfl (hb hby dx_method_4_code_21) ?_
    show Steps p.tables e below (s₁.setTop (mkF m 24 #[.val (.int pz), .val (.int q), .val (.int ((pz &&& (255 : Int32)).toUInt32.toUInt16.toUInt32.toInt32)), .val (.int ((((pz.toUInt32 >>> ((8 : Int32) &&& 31).toUInt32).toInt32) &&& (255 : Int32)).toUInt32.toUInt16.toUInt32.toInt32)), .unset] [(.int (255 : Int32)), (.int ((pz.toUInt32 >>> ((16 : Int32) &&& 31).toUInt32).toInt32))])) _
    refine XS.iand X0.here hx rfl (hb hby dx_method_4_code_24) rfl ?_
    refine XS.i2c X0.here hx rfl (hb hby dx_method_4_code_25) rfl ?_
    refine XS.istore X0.here hx rfl (hb hby dx_method_4_code_26) rfl (l' := #[.val (.int pz), .val (.int q), .val (.int ((pz &&& (255 : Int32)).toUInt32.toUInt16.toUInt32.toInt32)), .val (.int ((((pz.toUInt32 >>> ((8 : Int32) &&& 31).toUInt32).toInt32) &&& (255 : Int32)).toUInt32.toUInt16.toUInt32.toInt32)), .val (.int ((((pz.toUInt32 >>> ((16 : Int32) &&& 31).toUInt32).toInt32) &&& (255 : Int32)).toUInt32.toUInt16.toUInt32.toInt32))]) rfl ?_
    refine XS.iloadN X0.here hx rfl (hb hby dx_method_4_code_28) rfl ?_
    refine XS.ifYes X0.here hx rfl (pc0 := 29) (pc' := 43) rfl (hb hby dx_method_4_code_29) rfl ((if0 _ _).trans (feq (hc29 : ¬ (q = (0 : Int32)))).2) (by decide) (by decide) ?_
    refine XS.iloadN X0.here hx rfl (hb hby dx_method_4_code_43) rfl ?_
    refine XS.iconst X0.here hx rfl (hb hby dx_method_4_code_44) ?_
    refine XS.icmpYes X0.here hx rfl (pc0 := 45) (pc' := 63) rfl (hb hby dx_method_4_code_45) rfl (feq (hc45 : ¬ (q = (1 : Int32)))).2 (by decide) (by decide) ?_
    show Steps p.tables e below (s₁.setTop (mkF m 63 #[.val (.int pz), .val (.int q), .val (.int ((pz &&& (255 : Int32)).toUInt32.toUInt16.toUInt32.toInt32)), .val (.int ((((pz.toUInt32 >>> ((8 : Int32) &&& 31).toUInt32).toInt32) &&& (255 : Int32)).toUInt32.toUInt16.toUInt32.toInt32)), .val (.int ((((pz.toUInt32 >>> ((16 : Int32) &&& 31).toUInt32).toInt32) &&& (255 : Int32)).toUInt32.toUInt16.toUInt32.toInt32))] [])) _
    refine XS.iloadN X0.here hx rfl (hb hby dx_method_4_code_63) rfl ?_
    refine XS.iconst X0.here hx rfl (hb hby dx_method_4_code_64) ?_
    refine XS.icmpYes X0.here hx rfl (pc0 := 65) (pc' := 87) rfl (hb hby dx_method_4_code_65) rfl (feq (hc65 : ¬ (q = (2 : Int32)))).2 (by decide) (by decide) ?_
    refine st59 _ ?_
    show Steps p.tables e below (T59.setTop (mkF m 90 #[.val (.int pz), .val (.int q), .val (.int ((pz &&& (255 : Int32)).toUInt32.toUInt16.toUInt32.toInt32)), .val (.int ((((pz.toUInt32 >>> ((8 : Int32) &&& 31).toUInt32).toInt32) &&& (255 : Int32)).toUInt32.toUInt16.toUInt32.toInt32)), .val (.int ((((pz.toUInt32 >>> ((16 : Int32) &&& 31).toUInt32).toInt32) &&& (255 : Int32)).toUInt32.toUInt16.toUInt32.toInt32))] [(.ref b59)])) _
    refine XS.dup X59.here hx rfl (hb hby dx_method_4_code_90) rfl rfl ?_
    refine XS.iconst X59.here hx rfl (hb hby dx_method_4_code_91) ?_
    refine st61 _ ?_
    show Steps p.tables e below (T61.setTop (mkF m 94 #[.val (.int pz), .val (.int q), .val (.int ((pz &&& (255 : Int32)).toUInt32.toUInt16.toUInt32.toInt32)), .val (.int ((((pz.toUInt32 >>> ((8 : Int32) &&& 31).toUInt32).toInt32) &&& (255 : Int32)).toUInt32.toUInt16.toUInt32.toInt32)), .val (.int ((((pz.toUInt32 >>> ((16 : Int32) &&& 31).toUInt32).toInt32) &&& (255 : Int32)).toUInt32.toUInt16.toUInt32.toInt32))] [(.ref b61), (.ref b59), (.ref b59)])) _
    refine XS.dup X61.here hx rfl (hb hby dx_method_4_code_94) rfl rfl ?_
    refine XS.iconst X61.here hx rfl (hb hby dx_method_4_code_95) ?_
    refine XS.iloadN X61.here hx rfl (hb hby dx_method_4_code_96) rfl ?_
    refine st64 _ ?_
    show Steps p.tables e below (T64.setTop (mkF m 98 #[.val (.int pz), .val (.int q), .val (.int ((pz &&& (255 : Int32)).toUInt32.toUInt16.toUInt32.toInt32)), .val (.int ((((pz.toUInt32 >>> ((8 : Int32) &&& 31).toUInt32).toInt32) &&& (255 : Int32)).toUInt32.toUInt16.toUInt32.toInt32)), .val (.int ((((pz.toUInt32 >>> ((16 : Int32) &&& 31).toUInt32).toInt32) &&& (255 : Int32)).toUInt32.toUInt16.toUInt32.toInt32))] [(.ref b61), (.ref b59), (.ref b59)])) _
    refine XS.dup X64.here hx rfl (hb hby dx_method_4_code_98) rfl rfl ?_
    refine XS.iconst X64.here hx rfl (hb hby dx_method_4_code_99) ?_
    refine XS.iloadN X64.here hx rfl (hb hby dx_method_4_code_100) rfl ?_
    refine st67 _ ?_
    show Steps p.tables e below (T67.setTop (mkF m 102 #[.val (.int pz), .val (.int q), .val (.int ((pz &&& (255 : Int32)).toUInt32.toUInt16.toUInt32.toInt32)), .val (.int ((((pz.toUInt32 >>> ((8 : Int32) &&& 31).toUInt32).toInt32) &&& (255 : Int32)).toUInt32.toUInt16.toUInt32.toInt32)), .val (.int ((((pz.toUInt32 >>> ((16 : Int32) &&& 31).toUInt32).toInt32) &&& (255 : Int32)).toUInt32.toUInt16.toUInt32.toInt32))] [(.ref b61), (.ref b59), (.ref b59)])) _
    refine XS.dup X67.here hx rfl (hb hby dx_method_4_code_102) rfl rfl ?_
    refine XS.iconst X67.here hx rfl (hb hby dx_method_4_code_103) ?_
    refine XS.iload X67.here hx rfl (hb hby dx_method_4_code_104) rfl ?_
    refine st70 _ ?_
    show Steps p.tables e below (T70.setTop (mkF m 107 #[.val (.int pz), .val (.int q), .val (.int ((pz &&& (255 : Int32)).toUInt32.toUInt16.toUInt32.toInt32)), .val (.int ((((pz.toUInt32 >>> ((8 : Int32) &&& 31).toUInt32).toInt32) &&& (255 : Int32)).toUInt32.toUInt16.toUInt32.toInt32)), .val (.int ((((pz.toUInt32 >>> ((16 : Int32) &&& 31).toUInt32).toInt32) &&& (255 : Int32)).toUInt32.toUInt16.toUInt32.toInt32))] [(.ref b61), (.ref b59), (.ref b59)])) _
    refine st72.trans ?_
    show Steps p.tables e below (T72.setTop (mkF m 110 #[.val (.int pz), .val (.int q), .val (.int ((pz &&& (255 : Int32)).toUInt32.toUInt16.toUInt32.toInt32)), .val (.int ((((pz.toUInt32 >>> ((8 : Int32) &&& 31).toUInt32).toInt32) &&& (255 : Int32)).toUInt32.toUInt16.toUInt32.toInt32)), .val (.int ((((pz.toUInt32 >>> ((16 : Int32) &&& 31).toUInt32).toInt32) &&& (255 : Int32)).toUInt32.toUInt16.toUInt32.toInt32))] [(.ref b59)])) _
    exact retOut X72 hx Bd.returns rfl (Or.inr (Or.inr (Or.inr (Or.inr ⟨rfl, rfl, rfl⟩)))) (hb hby dx_method_4_code_110) hr
  · show Qstr Z G1 pz q h0 n0 _ T72.heap _
    exact ⟨b59, rfl, N72, K0_76, l0_b59, E72x⟩
  · show CHr Z own_EL s.vm s.heap T72.vm T72.heap
    rw [hh]
    exact hFin
set_option maxRecDepth 65536 in
theorem rmstr (l : Launch) (Z : State) (a0 : Array Value) (G1 : Int32) (hG : Glob Z a0 G1) (ws : List Jvm.Cond) (pz : Int32) (q : Int32) (h0 : Heap) (n0 : Nat) (Z0 : n0 ≤ h0.size) (X00 : Old Z n0 h0) :
    MetFree l y3 (head1 (Jvm.Cond.code y3 method_4_code 5 (some (.object "java/lang/String")) :: ws) ({ frames := 4, cells := 6, slots := 12, locals := 66 } : Room)) (fun a U => a = #[(.int pz), (.int q)] ∧ Z.Warmed39 U.vm ∧ U.heap = h0 ∧ CHv Z own_EL U.vm h0) (fun _ _ _ _ _ => True) (fun _ U o U' => ∃ v L, o = .returned v ∧ Qstr Z G1 pz q h0 n0 v U'.heap L ∧ CHr Z own_EL U.vm U.heap U'.vm U'.heap ∧ ReturnedEndW U o U' L ({ frames := 4, cells := 6, slots := 12, locals := 66 } : Room).cells ({ frames := 4, cells := 6, slots := 12, locals := 66 } : Room).slots) := by
  by_cases hq0 : q = (0 : Int32)
  · exact rmstr_0 l Z a0 G1 hG ws pz q h0 n0 Z0 X00 hq0
  by_cases hq1 : q = (1 : Int32)
  · exact rmstr_1 l Z a0 G1 hG ws pz q h0 n0 Z0 X00 hq0 hq1
  by_cases hq2 : q = (2 : Int32)
  · exact rmstr_2 l Z a0 G1 hG ws pz q h0 n0 Z0 X00 hq0 hq1 hq2
  exact rmstr_3 l Z a0 G1 hG ws pz q h0 n0 Z0 X00 hq0 hq1 hq2
theorem dx_prog_44_method_1_code_0 : decode prog_44_method_1_code 0 = .ok (.aload_n 0, 1) := by decide +kernel
theorem dx_prog_44_method_1_code_1 : decode prog_44_method_1_code 1 = .ok (.invokespecial 1, 3) := by decide +kernel
theorem dx_prog_44_method_1_code_4 : decode prog_44_method_1_code 4 = .ok (.aload_n 0, 1) := by decide +kernel
theorem dx_prog_44_method_1_code_5 : decode prog_44_method_1_code 5 = .ok (.aload_n 1, 1) := by decide +kernel
theorem dx_prog_44_method_1_code_6 : decode prog_44_method_1_code 6 = .ok (.ldc 7, 2) := by decide +kernel
theorem dx_prog_44_method_1_code_8 : decode prog_44_method_1_code 8 = .ok (.invokestatic 9, 3) := by decide +kernel
theorem pd__Ljava_lang_Object_Ljava_lang_String__Ljava_lang_Object_ : parseMethodDescriptor "(Ljava/lang/Object;Ljava/lang/String;)Ljava/lang/Object;" = some ⟨[(.object "java/lang/Object"), (.object "java/lang/String")], some (.object "java/lang/Object")⟩ := by decide +kernel
theorem dx_prog_44_method_1_code_11 : decode prog_44_method_1_code 11 = .ok (.checkcast 15, 3) := by decide +kernel
theorem dx_prog_44_method_1_code_14 : decode prog_44_method_1_code 14 = .ok (.putfield 17, 3) := by decide +kernel
theorem dx_prog_44_method_1_code_17 : decode prog_44_method_1_code 17 = .ok (.aload_n 0, 1) := by decide +kernel
theorem dx_prog_44_method_1_code_18 : decode prog_44_method_1_code 18 = .ok (.aload_n 2, 1) := by decide +kernel
theorem dx_prog_44_method_1_code_19 : decode prog_44_method_1_code 19 = .ok (.putfield 22, 3) := by decide +kernel
theorem dx_prog_44_method_1_code_22 : decode prog_44_method_1_code 22 = .ok (.aload_n 0, 1) := by decide +kernel
theorem dx_prog_44_method_1_code_23 : decode prog_44_method_1_code 23 = .ok (.aload_n 3, 1) := by decide +kernel
theorem dx_prog_44_method_1_code_24 : decode prog_44_method_1_code 24 = .ok (.putfield 25, 3) := by decide +kernel
theorem dx_prog_44_method_1_code_27 : decode prog_44_method_1_code 27 = .ok (.aload_n 0, 1) := by decide +kernel
theorem dx_prog_44_method_1_code_28 : decode prog_44_method_1_code 28 = .ok (.aload 4, 2) := by decide +kernel
theorem dx_prog_44_method_1_code_30 : decode prog_44_method_1_code 30 = .ok (.putfield 28, 3) := by decide +kernel
theorem dx_prog_44_method_1_code_33 : decode prog_44_method_1_code 33 = .ok (.return_, 1) := by decide +kernel
def Qmci (Z : State) (G1 : Int32) (a1 : Addr) (a2 : Addr) (u : Value) (a3 : Addr) (h0 : Heap) (n0 : Nat) (v : Option Value) (h : Heap) (L : List Loc) : Prop := v = none ∧ Fr n0 L ∧ Keep h0 h [a1] ∧ Exa Z h a1 "com/example/larkbridge/larkbridge/mcp/McpResourceContents" ∧ Fld Z h a1 "com/example/larkbridge/larkbridge/mcp/McpResourceContents" "uri" "Ljava/lang/String;" (.ref a2) ∧ Fld Z h a1 "com/example/larkbridge/larkbridge/mcp/McpResourceContents" "mimeType" "Ljava/lang/String;" u ∧ Fld Z h a1 "com/example/larkbridge/larkbridge/mcp/McpResourceContents" "text" "Ljava/lang/String;" .null ∧ Fld Z h a1 "com/example/larkbridge/larkbridge/mcp/McpResourceContents" "bytes" "[B" (.ref a3)
theorem ef_prog_44_method_1_code_RRVNR (m : MethodId) (x0 : Addr) (x1 : Addr) (x2 : Value) (x4 : Addr) (r2 : x2.isRef = true) : entryFrame m #[(.ref x0), (.ref x1), x2, .null, (.ref x4)] 5 = mkF m 0 #[.val (.ref x0), .val (.ref x1), .val x2, .val .null, .val (.ref x4)] [] := by
  simp [entryFrame, mkF, argsToLocals, own_cr, own_ci, own_cj, own_cn, own_cat r2]
abbrev y4 : MethodName := ⟨"com/example/larkbridge/larkbridge/mcp/McpResourceContents", "<init>", "(Ljava/lang/String;Ljava/lang/String;Ljava/lang/String;[B)V"⟩
theorem pn_com_example_larkbridge_larkbridge_mcp_McpResourceContents : plainName "com/example/larkbridge/larkbridge/mcp/McpResourceContents" = true := by first | (simp [plainName, overriddenIn]; done) | decide +kernel
set_option maxRecDepth 65536 in
set_option maxHeartbeats 40000000 in
theorem rmmci (l : Launch) (Z : State) (a0 : Array Value) (G1 : Int32) (hG : Glob Z a0 G1) (ws : List Jvm.Cond) (a1 : Addr) (a2 : Addr) (u : Value) (a3 : Addr) (h0 : Heap) (n0 : Nat) (Z0 : n0 ≤ h0.size) (X00 : Old Z n0 h0) (E_a1 : Exa Z h0 a1 "com/example/larkbridge/larkbridge/mcp/McpResourceContents") (g_a1 : n0 ≤ a1) (E_a2 : Exa Z h0 a2 "java/lang/String") (F_uri_a1 : Fld Z h0 a1 "com/example/larkbridge/larkbridge/mcp/McpResourceContents" "uri" "Ljava/lang/String;" .null) (F_mimeType_a1 : Fld Z h0 a1 "com/example/larkbridge/larkbridge/mcp/McpResourceContents" "mimeType" "Ljava/lang/String;" .null) (F_text_a1 : Fld Z h0 a1 "com/example/larkbridge/larkbridge/mcp/McpResourceContents" "text" "Ljava/lang/String;" .null) (F_bytes_a1 : Fld Z h0 a1 "com/example/larkbridge/larkbridge/mcp/McpResourceContents" "bytes" "[B" .null) (ru : u.isRef = true) :
    MetFree l y4 (head1 (Jvm.Cond.code y4 prog_44_method_1_code 5 none :: ws) ({ frames := 1, cells := 2, slots := 16, locals := 14 } : Room)) (fun a U => a = #[(.ref a1), (.ref a2), u, .null, (.ref a3)] ∧ Z.Warmed39 U.vm ∧ U.heap = h0 ∧ CHv Z own_EL U.vm h0) (fun _ _ _ _ _ => True) (fun _ U o U' => ∃ v L, o = .returned v ∧ Qmci Z G1 a1 a2 u a3 h0 n0 v U'.heap L ∧ CHr Z own_EL U.vm U.heap U'.vm U'.heap ∧ ReturnedEndW U o U' L ({ frames := 1, cells := 2, slots := 16, locals := 14 } : Room).cells ({ frames := 1, cells := 2, slots := 16, locals := 14 } : Room).slots) := by
  obtain ⟨hw, O_cs, P_cs⟩ := id hG
  have W : ∀ (i : Nat) {d : Jvm.Cond}, tables_1[i]? = some d → d.before a0 Z = true := fun i d h => hw d (List.mem_of_getElem? h)
  refine MetFree.of_bodySF (plainFor_of_name pn_com_example_larkbridge_larkbridge_mcp_McpResourceContents) hisR ?_
  intro p e s m args below meth c s₁ Bd hml0 hP hK
  obtain ⟨rfl, hZ, hh, hCH⟩ := hP
  have hx := Bd.exec
  have hby := Bd.bytes
  have hml : c.maxLocals = 5 := hml0
  have hown : s.vm.findClass "com/example/larkbridge/larkbridge/mcp/McpResourceContents" = some m.cls := findClass_of_methodNamed Bd.named
  have hnm := (name_of_methodNamed Bd.named Bd.method).1
  have X0 : Stand p l e ({ frames := 1, cells := 2, slots := 16, locals := 14 } : Room) (s.setVm s.vm) m #[(.ref a1), (.ref a2), u, .null, (.ref a3)] below meth c s₁ [] 0 0 := Stand.of_body Bd
  have e0 : s₁.heap = h0 := by rw [← hh, Bd.state]; rfl
  have hS0 : s.Since s.vm h0.size := (State.WarmedH.refl s).since _
  have hk0 : h0.size ≤ h0.size := Nat.le_refl _
  have R0 : CHr Z own_EL s.vm h0 s.vm h0 := CHr.refl hCH
  have hEL := own_ew hw
  have N0 := Fr.nil n0
  have pre0 : ∀ t, Steps p.tables e below (s₁.setTop (mkF m 0 #[.val (.ref a1), .val (.ref a2), .val u, .val .null, .val (.ref a3)] [])) t → Steps p.tables e below (s₁.setTop (entryFrame m #[(.ref a1), (.ref a2), u, .null, (.ref a3)] 5)) t := fun t kk_ => castTop (ef_prog_44_method_1_code_RRVNR m a1 a2 u a3 ru) kk_
  obtain ⟨T77, X77, e77, st77⟩ := initO X0 hx hZ hown (W 52 rfl) (W 16 rfl) (W 17 rfl) e0 (g := (mkF m 1 #[.val (.ref a1), .val (.ref a2), .val u, .val .null, .val (.ref a3)] [(.ref a1)])) rfl (by rw [hml]; rfl) rfl (hb hby dx_prog_44_method_1_code_1) (by decide) (W := 0) (by show 2 * 0 + _ ≤ _; exact Nat.le_of_eq rfl) (by decide)
  obtain ⟨a78, T78, h78, k78, X78, e78, E78, hS78, hk78, hZ78, hw78, hC78, -, st78⟩ := ldcOH X77 hx hZ hown (W 53 rfl) (own_sa hw) e77 hS0 hk0 hEL R0.1 (g := (mkF m 6 #[.val (.ref a1), .val (.ref a2), .val u, .val .null, .val (.ref a3)] [(.ref a2), (.ref a1)])) rfl (hb hby dx_prog_44_method_1_code_6) (n := 12) (by decide) (by decide) (by decide) (by decide)
  have Z79 : n0 ≤ h78.size := Nat.le_trans Z0 E78.1
  have K0_79 : Keep h0 h78 [a1] := (Keep.refl h0 [a1]).ext E78
  have O79 : Old Z n0 h78 := X00.ext E78
  have Rb78 : CHr Z own_EL s.vm h0 T78.vm h78 := R0.trans hC78
  -- pc 8: java/util/Objects.requireNonNull
  obtain ⟨_, _, ⟨T80, L80, k80, n80⟩, -, X80, ⟨Lc80, hQ80, l80, y80, z80⟩, st80⟩ := Jvm.LawKit.callS X78 hx (y := y2) hw78 (mvT hZ78 (W 56 rfl)) (mvT hZ78 (W 57 rfl)) (mvT hZ78 (W 58 rfl)) (mvT hZ78 (W 59 rfl)) (by decide) (backOf (W := 1) (rmrnn l Z a0 G1 hG [] a2 a78 h78 n0 Z79 O79) hZ78 (W 59 rfl) (W 58 rfl) (by decide) (by decide)) (g := (mkF m 8 #[.val (.ref a1), .val (.ref a2), .val u, .val .null, .val (.ref a3)] [(.ref a78), (.ref a2), (.ref a1)])) rfl (by rw [hml]; rfl) (argsL := [(.ref a2), (.ref a78)]) (rest := [(.ref a1)]) (lenOf pd__Ljava_lang_Object_Ljava_lang_String__Ljava_lang_Object_ rfl) rfl (by show 2 * 0 + _ ≤ _; exact Nat.le_of_eq rfl) (hb hby dx_prog_44_method_1_code_8) (fun _ _ => ⟨rfl, e78, (by decide : 2 + 0 ≤ _), (by decide : 16 + 0 ≤ _)⟩)
  dsimp only [Pt.U, Pt.locs, Pt.cells, Pt.slots] at X80 l80 y80 z80 st80 hQ80
  subst l80 y80 z80
  obtain ⟨rfl, N80q, eq80⟩ := hQ80
  have N80 := Fr.app N0 N80q
  have f81 := (E_a2.ext E78)
  obtain ⟨T82, X82, e82, st82⟩ := castY X80 hx hZ78 hw78 (W 60 rfl) eq80 (Ins.self f81) (g := (mkF m 11 #[.val (.ref a1), .val (.ref a2), .val u, .val .null, .val (.ref a3)] [(.ref a2), (.ref a1)])) rfl rfl (hb hby dx_prog_44_method_1_code_11)
  have f83 := (E_a1.ext E78)
  have f84 := (F_uri_a1.ext E78)
  obtain ⟨T85, h85, X85, e85, W85, st85⟩ := putF X82 hx hZ78 hw78 (host := "") (Or.inl (W 61 rfl)) Via.refl e82 f84 f83 (Or.inr ⟨(W 62 rfl), rfl, hnm⟩) (W 39 rfl) (ty := (.object "java/lang/String")) (by decide) rfl rfl (g := (mkF m 14 #[.val (.ref a1), .val (.ref a2), .val u, .val .null, .val (.ref a3)] [(.ref a2), (.ref a1)])) rfl rfl (hb hby dx_prog_44_method_1_code_14)
  have Fw85 := f84.same W85
  have Z86 : n0 ≤ h85.size := Nat.le_trans Z79 (Keep.of_wr W85).1
  have K0_86 : Keep h0 h85 [a1] := K0_79.wr W85 (Or.inl (List.mem_of_getElem? (i := 0) rfl))
  have O86 : Old Z n0 h85 := O79.wr W85 g_a1
  have R86 : CHr Z own_EL s.vm h0 T78.vm h85 := Rb78.trans (CHr.wr W85 (Safe.exa hZ78.alike f83 (by decide) (by decide)) Rb78.1)
  have hk86 : k78 ≤ h85.size := Nat.le_trans hk78 (Keep.of_wr W85).1
  have N85 := Fr.snoc X85 N80 g_a1
  have f87 := (f83.wr W85)
  have f88 := ((F_mimeType_a1.ext E78).other W85 (Or.inr (slot_ne (Or.inr (W 64 rfl)) (Or.inr (W 62 rfl)) (by decide) (t := (.object "java/lang/String")) (t' := (.object "java/lang/String")) (by decide) (by decide))))
  obtain ⟨T89, h89, X89, e89, W89, st89⟩ := putF X85 hx hZ78 hw78 (host := "") (Or.inl (W 63 rfl)) Via.refl e85 f88 f87 (Or.inr ⟨(W 64 rfl), rfl, hnm⟩) (W 39 rfl) (ty := (.object "java/lang/String")) (by decide) (own_nar rfl ru) (own_fits rfl ru) (g := (mkF m 19 #[.val (.ref a1), .val (.ref a2), .val u, .val .null, .val (.ref a3)] [u, (.ref a1)])) rfl rfl (hb hby dx_prog_44_method_1_code_19)
  have Fw89 := f88.same W89
  have Z90 : n0 ≤ h89.size := Nat.le_trans Z86 (Keep.of_wr W89).1
  have K0_90 : Keep h0 h89 [a1] := K0_86.wr W89 (Or.inl (List.mem_of_getElem? (i := 0) rfl))
  have O90 : Old Z n0 h89 := O86.wr W89 g_a1
  have R90 : CHr Z own_EL s.vm h0 T78.vm h89 := R86.trans (CHr.wr W89 (Safe.exa hZ78.alike f87 (by decide) (by decide)) R86.1)
  have hk90 : k78 ≤ h89.size := Nat.le_trans hk86 (Keep.of_wr W89).1
  have N89 := Fr.snoc X89 N85 g_a1
  have f91 := (f87.wr W89)
  have f92 := (((F_text_a1.ext E78).other W85 (Or.inr (slot_ne (Or.inr (W 66 rfl)) (Or.inr (W 62 rfl)) (by decide) (t := (.object "java/lang/String")) (t' := (.object "java/lang/String")) (by decide) (by decide)))).other W89 (Or.inr (slot_ne (Or.inr (W 66 rfl)) (Or.inr (W 64 rfl)) (by decide) (t := (.object "java/lang/String")) (t' := (.object "java/lang/String")) (by decide) (by decide))))
  obtain ⟨T93, h93, X93, e93, W93, st93⟩ := putF X89 hx hZ78 hw78 (host := "") (Or.inl (W 65 rfl)) Via.refl e89 f92 f91 (Or.inr ⟨(W 66 rfl), rfl, hnm⟩) (W 39 rfl) (ty := (.object "java/lang/String")) (by decide) rfl rfl (g := (mkF m 24 #[.val (.ref a1), .val (.ref a2), .val u, .val .null, .val (.ref a3)] [.null, (.ref a1)])) rfl rfl (hb hby dx_prog_44_method_1_code_24)
  have Fw93 := f92.same W93
  have Z94 : n0 ≤ h93.size := Nat.le_trans Z90 (Keep.of_wr W93).1
  have K0_94 : Keep h0 h93 [a1] := K0_90.wr W93 (Or.inl (List.mem_of_getElem? (i := 0) rfl))
  have O94 : Old Z n0 h93 := O90.wr W93 g_a1
  have R94 : CHr Z own_EL s.vm h0 T78.vm h93 := R90.trans (CHr.wr W93 (Safe.exa hZ78.alike f91 (by decide) (by decide)) R90.1)
  have hk94 : k78 ≤ h93.size := Nat.le_trans hk90 (Keep.of_wr W93).1
  have N93 := Fr.snoc X93 N89 g_a1
  have f95 := (f91.wr W93)
  have f96 := ((((F_bytes_a1.ext E78).other W85 (Or.inr (slot_ne (Or.inr (W 68 rfl)) (Or.inr (W 62 rfl)) (by decide) (t := (.array .byte)) (t' := (.object "java/lang/String")) (by decide) (by decide)))).other W89 (Or.inr (slot_ne (Or.inr (W 68 rfl)) (Or.inr (W 64 rfl)) (by decide) (t := (.array .byte)) (t' := (.object "java/lang/String")) (by decide) (by decide)))).other W93 (Or.inr (slot_ne (Or.inr (W 68 rfl)) (Or.inr (W 66 rfl)) (by decide) (t := (.array .byte)) (t' := (.object "java/lang/String")) (by decide) (by decide))))
  obtain ⟨T97, h97, X97, e97, W97, st97⟩ := putF X93 hx hZ78 hw78 (host := "") (Or.inl (W 67 rfl)) Via.refl e93 f96 f95 (Or.inr ⟨(W 68 rfl), rfl, hnm⟩) (W 39 rfl) (ty := (.array .byte)) (by decide) rfl rfl (g := (mkF m 30 #[.val (.ref a1), .val (.ref a2), .val u, .val .null, .val (.ref a3)] [(.ref a3), (.ref a1)])) rfl rfl (hb hby dx_prog_44_method_1_code_30)
  have Fw97 := f96.same W97
  have Z98 : n0 ≤ h97.size := Nat.le_trans Z94 (Keep.of_wr W97).1
  have K0_98 : Keep h0 h97 [a1] := K0_94.wr W97 (Or.inl (List.mem_of_getElem? (i := 0) rfl))
  have O98 : Old Z n0 h97 := O94.wr W97 g_a1
  have R98 : CHr Z own_EL s.vm h0 T78.vm h97 := R94.trans (CHr.wr W97 (Safe.exa hZ78.alike f95 (by decide) (by decide)) R94.1)
  have hk98 : k78 ≤ h97.size := Nat.le_trans hk94 (Keep.of_wr W97).1
  have N97 := Fr.snoc X97 N93 g_a1
  have f99 := (f95.wr W97)
  have f100 := (((Fw85.other W89 (Or.inr (slot_ne (Or.inr (W 62 rfl)) (Or.inr (W 64 rfl)) (by decide) (t := (.object "java/lang/String")) (t' := (.object "java/lang/String")) (by decide) (by decide)))).other W93 (Or.inr (slot_ne (Or.inr (W 62 rfl)) (Or.inr (W 66 rfl)) (by decide) (t := (.object "java/lang/String")) (t' := (.object "java/lang/String")) (by decide) (by decide)))).other W97 (Or.inr (slot_ne (Or.inr (W 62 rfl)) (Or.inr (W 68 rfl)) (by decide) (t := (.object "java/lang/String")) (t' := (.array .byte)) (by decide) (by decide))))
  have f101 := ((Fw89.other W93 (Or.inr (slot_ne (Or.inr (W 64 rfl)) (Or.inr (W 66 rfl)) (by decide) (t := (.object "java/lang/String")) (t' := (.object "java/lang/String")) (by decide) (by decide)))).other W97 (Or.inr (slot_ne (Or.inr (W 64 rfl)) (Or.inr (W 68 rfl)) (by decide) (t := (.object "java/lang/String")) (t' := (.array .byte)) (by decide) (by decide))))
  have f102 := (Fw93.other W97 (Or.inr (slot_ne (Or.inr (W 66 rfl)) (Or.inr (W 68 rfl)) (by decide) (t := (.object "java/lang/String")) (t' := (.array .byte)) (by decide) (by decide))))
  obtain ⟨fs, hr, hrun, hended, hend⟩ := Jvm.Stand.leaveW (v := none) X97 hS78 (by rw [e97]; exact hk98) (fun _ => rfl)
  have hFin := R98.trans (CHv.at X97 hZ78 hEL R98.1)
  refine ⟨_, _, pre0 _ ?_, hrun, hended, _, _, rfl, ?_, ?_, own_mono hend (Nat.le_of_ble_eq_true rfl) (Nat.le_of_ble_eq_true rfl)⟩
  · show Steps p.tables e below (s₁.setTop (mkF m 0 #[.val (.ref a1), .val (.ref a2), .val u, .val .null, .val (.ref a3)] [])) _
    refine XS.aloadN X0.here hx rfl (hb hby dx_prog_44_method_1_code_0) rfl rfl ?_
    refine st77 _ ?_
    show Steps p.tables e below (T77.setTop (mkF m 4 #[.val (.ref a1), .val (.ref a2), .val u, .val .null, .val (.ref a3)] [])) _
    refine XS.aloadN X77.here hx rfl (hb hby dx_prog_44_method_1_code_4) rfl rfl ?_
    refine XS.aloadN X77.here hx rfl (hb hby dx_prog_44_method_1_code_5) rfl rfl ?_
    refine st78 _ ?_
    show Steps p.tables e below (T78.setTop (mkF m 8 #[.val (.ref a1), .val (.ref a2), .val u, .val .null, .val (.ref a3)] [(.ref a78), (.ref a2), (.ref a1)])) _
    refine st80 _ ?_
    show Steps p.tables e below (T80.setTop (mkF m 11 #[.val (.ref a1), .val (.ref a2), .val u, .val .null, .val (.ref a3)] [(.ref a2), (.ref a1)])) _
    refine st82 _ ?_
    show Steps p.tables e below (T82.setTop (mkF m 14 #[.val (.ref a1), .val (.ref a2), .val u, .val .null, .val (.ref a3)] [(.ref a2), (.ref a1)])) _
    refine st85 _ ?_
    show Steps p.tables e below (T85.setTop (mkF m 17 #[.val (.ref a1), .val (.ref a2), .val u, .val .null, .val (.ref a3)] [])) _
    refine XS.aloadN X85.here hx rfl (hb hby dx_prog_44_method_1_code_17) rfl rfl ?_
    refine XS.aloadN X85.here hx rfl (hb hby dx_prog_44_method_1_code_18) rfl ru ?_
    refine st89 _ ?_
    show Steps p.tables e below (T89.setTop (mkF m 22 #[.val (.ref a1), .val (.ref a2), .val u, .val .null, .val (.ref a3)] [])) _
    refine XS.aloadN X89.here hx rfl (hb hby dx_prog_44_method_1_code_22) rfl rfl ?_
    refine XS.aloadN X89.here hx rfl (hb hby dx_prog_44_method_1_code_23) rfl rfl ?_
    refine st93 _ ?_
    show Steps p.tables e below (T93.setTop (mkF m 27 #[.val (.ref a1), .val (.ref a2), .val u, .val .null, .val (.ref a3)] [])) _
    refine XS.aloadN X93.here hx rfl (hb hby dx_prog_44_method_1_code_27) rfl rfl ?_
    refine XS.aload X93.here hx rfl (hb hby dx_prog_44_method_1_code_28) rfl rfl ?_
    refine st97 _ ?_
    show Steps p.tables e below (T97.setTop (mkF m 33 #[.val (.ref a1), .val (.ref a2), .val u, .val .null, .val (.ref a3)] [])) _
    exact X97.returnOut hx Bd.returns (hb hby dx_prog_44_method_1_code_33) hr
  · show Qmci Z G1 a1 a2 u a3 h0 n0 _ T97.heap _
    rw [e97]
    exact ⟨rfl, N97, K0_98, f99, f100, f101, f102, Fw97⟩
  · show CHr Z own_EL s.vm s.heap T97.vm T97.heap
    rw [hh, e97]
    exact hFin
theorem dx_prog_44_method_3_code_0 : decode prog_44_method_3_code 0 = .ok (.new 18, 3) := by decide +kernel
theorem dx_prog_44_method_3_code_3 : decode prog_44_method_3_code 3 = .ok (.dup, 1) := by decide +kernel
theorem dx_prog_44_method_3_code_4 : decode prog_44_method_3_code 4 = .ok (.aload_n 0, 1) := by decide +kernel
theorem dx_prog_44_method_3_code_5 : decode prog_44_method_3_code 5 = .ok (.aload_n 1, 1) := by decide +kernel
theorem dx_prog_44_method_3_code_6 : decode prog_44_method_3_code 6 = .ok (.aconst_null, 1) := by decide +kernel
theorem dx_prog_44_method_3_code_7 : decode prog_44_method_3_code 7 = .ok (.aload_n 2, 1) := by decide +kernel
theorem dx_prog_44_method_3_code_8 : decode prog_44_method_3_code 8 = .ok (.invokevirtual 36, 3) := by decide +kernel
theorem dx_prog_44_method_3_code_11 : decode prog_44_method_3_code 11 = .ok (.checkcast 37, 3) := by decide +kernel
theorem dx_prog_44_method_3_code_14 : decode prog_44_method_3_code 14 = .ok (.invokespecial 33, 3) := by decide +kernel
theorem pd__Ljava_lang_String_Ljava_lang_String_Ljava_lang_String__B_V : parseMethodDescriptor "(Ljava/lang/String;Ljava/lang/String;Ljava/lang/String;[B)V" = some ⟨[(.object "java/lang/String"), (.object "java/lang/String"), (.object "java/lang/String"), (.array .byte)], none⟩ := by decide +kernel
theorem dx_prog_44_method_3_code_17 : decode prog_44_method_3_code 17 = .ok (.areturn, 1) := by decide +kernel
def Qmcb (Z : State) (G1 : Int32) (a2 : Addr) (u : Value) (a3 : Addr) (kb : ClassId) (z : Int32) (vs : List Value) (h0 : Heap) (n0 : Nat) (v : Option Value) (h : Heap) (L : List Loc) : Prop := ∃ b : Addr, ∃ c : Addr, v = some (.ref b) ∧ Fr n0 L ∧ Keep h0 h [] ∧ h0.size ≤ b ∧ h0.size ≤ c ∧ Exa Z h b "com/example/larkbridge/larkbridge/mcp/McpResourceContents" ∧ Exa Z h c "[B" ∧ Arv Z h c kb .byte z vs (.int (0 : Int32)) ∧ Fld Z h b "com/example/larkbridge/larkbridge/mcp/McpResourceContents" "uri" "Ljava/lang/String;" (.ref a2) ∧ Fld Z h b "com/example/larkbridge/larkbridge/mcp/McpResourceContents" "mimeType" "Ljava/lang/String;" u ∧ Fld Z h b "com/example/larkbridge/larkbridge/mcp/McpResourceContents" "text" "Ljava/lang/String;" .null ∧ Fld Z h b "com/example/larkbridge/larkbridge/mcp/McpResourceContents" "bytes" "[B" (.ref c)
theorem ef_prog_44_method_3_code_RVR (m : MethodId) (x0 : Addr) (x1 : Value) (x2 : Addr) (r1 : x1.isRef = true) : entryFrame m #[(.ref x0), x1, (.ref x2)] 3 = mkF m 0 #[.val (.ref x0), .val x1, .val (.ref x2)] [] := by
  simp [entryFrame, mkF, argsToLocals, own_cr, own_ci, own_cj, own_cn, own_cat r1]
abbrev y5 : MethodName := ⟨"com/example/larkbridge/larkbridge/mcp/McpResourceContents", "binary", "(Ljava/lang/String;Ljava/lang/String;[B)Lcom/example/larkbridge/larkbridge/mcp/McpResourceContents;"⟩
set_option maxRecDepth 65536 in
set_option maxHeartbeats 40000000 in
theorem rmmcb (l : Launch) (Z : State) (a0 : Array Value) (G1 : Int32) (hG : Glob Z a0 G1) (ws : List Jvm.Cond) (a2 : Addr) (u : Value) (a3 : Addr) (kb : ClassId) (z : Int32) (vs : List Value) (h0 : Heap) (n0 : Nat) (Z0 : n0 ≤ h0.size) (X00 : Old Z n0 h0) (E_a2 : Exa Z h0 a2 "java/lang/String") (E_a3 : Exa Z h0 a3 "[B") (V_a3 : Arv Z h0 a3 kb .byte z vs (.int (0 : Int32))) (ru : u.isRef = true) (hz : z.toNatClampNeg ≤ 4) :
    MetFree l y5 (head1 (Jvm.Cond.code y5 prog_44_method_3_code 3 (some (.object "com/example/larkbridge/larkbridge/mcp/McpResourceContents")) :: ws) ({ frames := 2, cells := 4, slots := 24, locals := 31 } : Room)) (fun a U => a = #[(.ref a2), u, (.ref a3)] ∧ Z.Warmed39 U.vm ∧ U.heap = h0 ∧ CHv Z own_EL U.vm h0) (fun _ _ _ _ _ => True) (fun _ U o U' => ∃ v L, o = .returned v ∧ Qmcb Z G1 a2 u a3 kb z vs h0 n0 v U'.heap L ∧ CHr Z own_EL U.vm U.heap U'.vm U'.heap ∧ ReturnedEndW U o U' L ({ frames := 2, cells := 4, slots := 24, locals := 31 } : Room).cells ({ frames := 2, cells := 4, slots := 24, locals := 31 } : Room).slots) := by
  obtain ⟨hw, O_cs, P_cs⟩ := id hG
  have W : ∀ (i : Nat) {d : Jvm.Cond}, tables_1[i]? = some d → d.before a0 Z = true := fun i d h => hw d (List.mem_of_getElem? h)
  refine MetFree.of_bodySF (plainFor_of_name pn_com_example_larkbridge_larkbridge_mcp_McpResourceContents) hisR ?_
  intro p e s m args below meth c s₁ Bd hml0 hP hK
  obtain ⟨rfl, hZ, hh, hCH⟩ := hP
  have hx := Bd.exec
  have hby := Bd.bytes
  have hml : c.maxLocals = 3 := hml0
  have hown : s.vm.findClass "com/example/larkbridge/larkbridge/mcp/McpResourceContents" = some m.cls := findClass_of_methodNamed Bd.named
  have hnm := (name_of_methodNamed Bd.named Bd.method).1
  have X0 : Stand p l e ({ frames := 2, cells := 4, slots := 24, locals := 31 } : Room) (s.setVm s.vm) m #[(.ref a2), u, (.ref a3)] below meth c s₁ [] 0 0 := Stand.of_body Bd
  have e0 : s₁.heap = h0 := by rw [← hh, Bd.state]; rfl
  have hS0 : s.Since s.vm h0.size := (State.WarmedH.refl s).since _
  have hk0 : h0.size ≤ h0.size := Nat.le_refl _
  have R0 : CHr Z own_EL s.vm h0 s.vm h0 := CHr.refl hCH
  have hEL := own_ew hw
  have N0 := Fr.nil n0
  have pre0 : ∀ t, Steps p.tables e below (s₁.setTop (mkF m 0 #[.val (.ref a2), .val u, .val (.ref a3)] [])) t → Steps p.tables e below (s₁.setTop (entryFrame m #[(.ref a2), u, (.ref a3)] 3)) t := fun t kk_ => castTop (ef_prog_44_method_3_code_RVR m a2 u a3 ru) kk_
  obtain ⟨T103, h103, X103, e103, E103, A103, D103, -, st103⟩ := newO X0 hx hZ hown (W 38 rfl) (W 39 rfl) (W 36 rfl) e0 (g := (mkF m 0 #[.val (.ref a2), .val u, .val (.ref a3)] [])) rfl (hb hby dx_prog_44_method_3_code_0) (by decide) (by decide)
  obtain ⟨b103, g103⟩ : ∃ z, z = h0.size := ⟨_, rfl⟩
  rw [← g103] at A103 D103 st103
  have Z104 : n0 ≤ h103.size := Nat.le_trans Z0 E103.1
  have K0_104 : Keep h0 h103 [] := (Keep.refl h0 []).ext E103
  have O104 : Old Z n0 h103 := X00.ext E103
  have R104 : CHr Z own_EL s.vm h0 s.vm h103 := R0.trans (CHr.ext E103 R0.1)
  have hk104 : h0.size ≤ h103.size := Nat.le_trans hk0 E103.1
  have lo_b103 : h0.size ≤ b103 := Nat.le_of_eq g103.symm
  have g_b103 : n0 ≤ b103 := Nat.le_trans Z0 lo_b103
  have l0_b103 : h0.size ≤ b103 := Nat.le_trans (Keep.refl h0 []).1 lo_b103
  have F_uri_b103 : Fld Z h103 b103 "com/example/larkbridge/larkbridge/mcp/McpResourceContents" "uri" "Ljava/lang/String;" .null := D103 (Or.inr (W 62 rfl)) (ty := (.object "java/lang/String")) (by decide)
  have F_mimeType_b103 : Fld Z h103 b103 "com/example/larkbridge/larkbridge/mcp/McpResourceContents" "mimeType" "Ljava/lang/String;" .null := D103 (Or.inr (W 64 rfl)) (ty := (.object "java/lang/String")) (by decide)
  have F_text_b103 : Fld Z h103 b103 "com/example/larkbridge/larkbridge/mcp/McpResourceContents" "text" "Ljava/lang/String;" .null := D103 (Or.inr (W 66 rfl)) (ty := (.object "java/lang/String")) (by decide)
  have F_bytes_b103 : Fld Z h103 b103 "com/example/larkbridge/larkbridge/mcp/McpResourceContents" "bytes" "[B" .null := D103 (Or.inr (W 68 rfl)) (ty := (.array .byte)) (by decide)
  have f105 := (V_a3.ext E103)
  have f106 := (E_a3.ext E103)
  obtain ⟨T107, h107, X107, e107, E107, A107, Q107, st107⟩ := cloneH X103 hx hZ hown (W 40 rfl) (W 41 rfl) (W 45 rfl) (W 43 rfl) (W 44 rfl) (W 46 rfl) e103 (Arv.arh f105) f106 (g := (mkF m 8 #[.val (.ref a2), .val u, .val (.ref a3)] [(.ref a3), .null, u, (.ref a2), (.ref b103), (.ref b103)])) rfl (by rw [hml]; rfl) rfl (hb hby dx_prog_44_method_3_code_8) (by decide) (W := 5) (cap := 4) (by rcases ref_cases ru with h_ | ⟨_, h_⟩ <;> rw [h_] <;> (show 2 * 0 + _ ≤ _; exact Nat.le_of_eq rfl)) (by decide) hz (by decide) (by decide)
  obtain ⟨b107, g107⟩ : ∃ z, z = h103.size := ⟨_, rfl⟩
  rw [← g107] at A107 Q107 st107
  have Z108 : n0 ≤ h107.size := Nat.le_trans Z104 E107.1
  have K0_108 : Keep h0 h107 [] := K0_104.ext E107
  have O108 : Old Z n0 h107 := O104.ext E107
  have R108 : CHr Z own_EL s.vm h0 s.vm h107 := R104.trans (CHr.ext E107 R104.1)
  have hk108 : h0.size ≤ h107.size := Nat.le_trans hk104 E107.1
  have lo_b107 : h103.size ≤ b107 := Nat.le_of_eq g107.symm
  have g_b107 : n0 ≤ b107 := Nat.le_trans Z104 lo_b107
  have l0_b107 : h0.size ≤ b107 := Nat.le_trans K0_104.1 lo_b107
  have V_b107 : Arv Z h107 b107 kb .byte z vs (.int (0 : Int32)) := A107
  have sfb107 : Safe Z own_EL s.vm h107 b107 := Safe.ext E107 R104.1 (Safe.new lo_b107)
  obtain ⟨T109, X109, e109, st109⟩ := castY X107 hx hZ hown (W 47 rfl) e107 (Ins.self Q107) (g := (mkF m 11 #[.val (.ref a2), .val u, .val (.ref a3)] [(.ref b107), .null, u, (.ref a2), (.ref b103), (.ref b103)])) rfl rfl (hb hby dx_prog_44_method_3_code_11)
  have f111 := (A103.ext E107)
  have f112 := ((E_a2.ext E103).ext E107)
  have f113 := (F_uri_b103.ext E107)
  have f114 := (F_mimeType_b103.ext E107)
  have f115 := (F_text_b103.ext E107)
  have f116 := (F_bytes_b103.ext E107)
  -- pc 14: com/example/larkbridge/larkbridge/mcp/McpResourceContents.<init>
  obtain ⟨_, _, ⟨T110, L110, k110, n110⟩, -, X110, hS110, hG110, ⟨Lc110, hQ110, l110, y110, z110, hC110⟩, st110⟩ := X109.specialBackS hx (y := y4) rfl hown (mvT hZ (W 49 rfl)) (mvT hZ (W 50 rfl)) (mvT hZ (W 51 rfl)) (by decide) (backOfSH (s := s) (W := 1) (rmmci l Z a0 G1 hG [] b103 a2 u b107 h107 n0 Z108 O108 f111 g_b103 f112 f113 f114 f115 f116 ru) hZ (W 51 rfl) (W 36 rfl) (by decide) (by decide) hEL R108.1) (g := (mkF m 14 #[.val (.ref a2), .val u, .val (.ref a3)] [(.ref b107), .null, u, (.ref a2), (.ref b103), (.ref b103)])) rfl (by rw [hml]; rfl) (Steps.refl _) (a := b103) (argsL := [(.ref a2), u, .null, (.ref b107)]) (rest := [(.ref b103)]) (lenOf pd__Ljava_lang_String_Ljava_lang_String_Ljava_lang_String__B_V rfl) rfl (by show 2 * 0 + _ ≤ _; exact Nat.le_of_eq rfl) (hb hby dx_prog_44_method_3_code_14) (fun _ _ => ⟨rfl, e109, (by decide : 2 + 2 ≤ _), (by decide : 8 + 16 ≤ _)⟩)
  dsimp only [Pt.U, Pt.locs, Pt.cells, Pt.slots] at X110 l110 y110 z110 st110 hQ110 hS110 hG110 hC110
  subst l110 y110 z110
  have hZ110 : Z.Warmed39 T110.vm := State.Warmed39.trans (t := s.setVm s.vm) hZ hS110.1
  have hw110 : T110.vm.findClass "com/example/larkbridge/larkbridge/mcp/McpResourceContents" = some m.cls := by rw [hS110.1.alike.findClass]; exact hown
  have hSn110 : s.Since T110.vm T110.heap.size := hS0.trans hS110 (Nat.le_trans hk108 (by have q := hG110; rw [e109] at q; exact q))
  have X110 : Stand p l e _ (s.setVm T110.vm) m _ below meth c T110 _ _ _ := X110
  obtain ⟨rfl, N110q, K110, f110_0, f110_1, f110_2, f110_3, f110_4⟩ := hQ110
  have N110 := Fr.app N0 N110q
  have Z117 : n0 ≤ T110.heap.size := Nat.le_trans Z108 K110.1
  have K0_117 : Keep h0 T110.heap [] := K0_108.trans K110 (allS (Or.inr l0_b103) all0)
  have O117 : Old Z n0 T110.heap := O108.keep K110 (allS g_b103 all0)
  have hkw110 : T110.heap.size ≤ T110.heap.size := Nat.le_refl _
  have sfw117_b107 : Safe Z own_EL T110.vm T110.heap b107 := hC110.safe V_b107.lt sfb107
  have Rb110 : CHr Z own_EL s.vm h0 T110.vm T110.heap := R108.trans hC110
  have f118 := (Q107.keep K110)
  have f119 := (V_b107.keep K110 (ninS (Ne.symm (Nat.ne_of_lt (Nat.lt_of_lt_of_le A103.lt lo_b107))) nin0))
  obtain ⟨fs, hr, hrun, hended, hend⟩ := Jvm.Stand.leaveW (v := some (.ref b103)) X110 hSn110 hkw110 (fun h => by rw [Bd.returns] at h; cases h)
  have hFin := Rb110.trans (CHv.at X110 hZ110 hEL Rb110.1)
  refine ⟨_, _, pre0 _ ?_, hrun, hended, _, _, rfl, ?_, ?_, own_mono hend (Nat.le_of_ble_eq_true rfl) (Nat.le_of_ble_eq_true rfl)⟩
  · show Steps p.tables e below (s₁.setTop (mkF m 0 #[.val (.ref a2), .val u, .val (.ref a3)] [])) _
    refine st103 _ ?_
    show Steps p.tables e below (T103.setTop (mkF m 3 #[.val (.ref a2), .val u, .val (.ref a3)] [(.ref b103)])) _
    refine XS.dup X103.here hx rfl (hb hby dx_prog_44_method_3_code_3) rfl rfl ?_
    refine XS.aloadN X103.here hx rfl (hb hby dx_prog_44_method_3_code_4) rfl rfl ?_
    refine XS.aloadN X103.here hx rfl (hb hby dx_prog_44_method_3_code_5) rfl ru ?_
    refine XS.aconstNull X103.here hx rfl (hb hby dx_prog_44_method_3_code_6) ?_
    refine XS.aloadN X103.here hx rfl (hb hby dx_prog_44_method_3_code_7) rfl rfl ?_
    refine st107 _ ?_
    show Steps p.tables e below (T107.setTop (mkF m 11 #[.val (.ref a2), .val u, .val (.ref a3)] [(.ref b107), .null, u, (.ref a2), (.ref b103), (.ref b103)])) _
    refine st109 _ ?_
    show Steps p.tables e below (T109.setTop (mkF m 14 #[.val (.ref a2), .val u, .val (.ref a3)] [(.ref b107), .null, u, (.ref a2), (.ref b103), (.ref b103)])) _
    refine st110.trans ?_
    show Steps p.tables e below (T110.setTop (mkF m 17 #[.val (.ref a2), .val u, .val (.ref a3)] [(.ref b103)])) _
    exact retOut X110 hx Bd.returns rfl (Or.inr (Or.inr (Or.inr (Or.inr ⟨rfl, rfl, rfl⟩)))) (hb hby dx_prog_44_method_3_code_17) hr
  · show Qmcb Z G1 a2 u a3 kb z vs h0 n0 _ T110.heap _
    exact ⟨b103, b107, rfl, N110, K0_117, l0_b103, l0_b107, f110_0, f118, f119, f110_1, f110_2, f110_3, f110_4⟩
  · show CHr Z own_EL s.vm s.heap T110.vm T110.heap
    rw [hh]
    exact hFin
theorem dx_prog_44_method_8_code_0 : decode prog_44_method_8_code 0 = .ok (.aload_n 0, 1) := by decide +kernel
theorem dx_prog_44_method_8_code_1 : decode prog_44_method_8_code 1 = .ok (.getfield 28, 3) := by decide +kernel
theorem dx_prog_44_method_8_code_4 : decode prog_44_method_8_code 4 = .ok (.ifnonnull 7, 3) := by decide +kernel
theorem dx_prog_44_method_8_code_11 : decode prog_44_method_8_code 11 = .ok (.aload_n 0, 1) := by decide +kernel
theorem dx_prog_44_method_8_code_12 : decode prog_44_method_8_code 12 = .ok (.getfield 28, 3) := by decide +kernel
theorem dx_prog_44_method_8_code_15 : decode prog_44_method_8_code 15 = .ok (.invokevirtual 36, 3) := by decide +kernel
theorem dx_prog_44_method_8_code_18 : decode prog_44_method_8_code 18 = .ok (.checkcast 37, 3) := by decide +kernel
theorem dx_prog_44_method_8_code_21 : decode prog_44_method_8_code 21 = .ok (.areturn, 1) := by decide +kernel
def Qbyt (Z : State) (G1 : Int32) (a1 : Addr) (a3 : Addr) (kb : ClassId) (z : Int32) (vs : List Value) (h0 : Heap) (n0 : Nat) (v : Option Value) (h : Heap) (L : List Loc) : Prop := ∃ c : Addr, v = some (.ref c) ∧ Fr n0 L ∧ Keep h0 h [] ∧ h0.size ≤ c ∧ Exa Z h c "[B" ∧ Arv Z h c kb .byte z vs (.int (0 : Int32))
theorem ef_prog_44_method_8_code_R (m : MethodId) (x0 : Addr) : entryFrame m #[(.ref x0)] 1 = mkF m 0 #[.val (.ref x0)] [] := by first | (simp [entryFrame, mkF, argsToLocals, Value.category]; done) | rfl
abbrev y6 : MethodName := ⟨"com/example/larkbridge/larkbridge/mcp/McpResourceContents", "bytes", "()[B"⟩
set_option maxRecDepth 65536 in
set_option maxHeartbeats 40000000 in
theorem rmbyt (l : Launch) (Z : State) (a0 : Array Value) (G1 : Int32) (hG : Glob Z a0 G1) (ws : List Jvm.Cond) (a1 : Addr) (a3 : Addr) (kb : ClassId) (z : Int32) (vs : List Value) (h0 : Heap) (n0 : Nat) (Z0 : n0 ≤ h0.size) (X00 : Old Z n0 h0) (F_bytes_a1 : Fld Z h0 a1 "com/example/larkbridge/larkbridge/mcp/McpResourceContents" "bytes" "[B" (.ref a3)) (E_a3 : Exa Z h0 a3 "[B") (V_a3 : Arv Z h0 a3 kb .byte z vs (.int (0 : Int32))) (hz : z.toNatClampNeg ≤ 4) :
    MetFree l y6 (head1 (Jvm.Cond.code y6 prog_44_method_8_code 1 (some (.array .byte)) :: ws) ({ frames := 1, cells := 1, slots := 4, locals := 14 } : Room)) (fun a U => a = #[(.ref a1)] ∧ Z.Warmed39 U.vm ∧ U.heap = h0) (fun _ _ _ _ _ => True) (fun _ U o U' => ∃ v L, o = .returned v ∧ Qbyt Z G1 a1 a3 kb z vs h0 n0 v U'.heap L ∧ FrameEnd U o U' L ({ frames := 1, cells := 1, slots := 4, locals := 14 } : Room).cells ({ frames := 1, cells := 1, slots := 4, locals := 14 } : Room).slots) := by
  obtain ⟨hw, O_cs, P_cs⟩ := id hG
  have W : ∀ (i : Nat) {d : Jvm.Cond}, tables_1[i]? = some d → d.before a0 Z = true := fun i d h => hw d (List.mem_of_getElem? h)
  refine MetFree.of_bodySF (plainFor_of_name pn_com_example_larkbridge_larkbridge_mcp_McpResourceContents) hisR ?_
  intro p e s m args below meth c s₁ Bd hml0 hP hK
  obtain ⟨rfl, hZ, hh⟩ := hP
  have hx := Bd.exec
  have hby := Bd.bytes
  have hml : c.maxLocals = 1 := hml0
  have hown : s.vm.findClass "com/example/larkbridge/larkbridge/mcp/McpResourceContents" = some m.cls := findClass_of_methodNamed Bd.named
  have hnm := (name_of_methodNamed Bd.named Bd.method).1
  have X0 : Stand p l e ({ frames := 1, cells := 1, slots := 4, locals := 14 } : Room) s m #[(.ref a1)] below meth c s₁ [] 0 0 := Stand.of_body Bd
  have e0 : s₁.heap = h0 := by rw [← hh, Bd.state]; rfl
  have N0 := Fr.nil n0
  have pre0 : ∀ t, Steps p.tables e below (s₁.setTop (mkF m 0 #[.val (.ref a1)] [])) t → Steps p.tables e below (s₁.setTop (entryFrame m #[(.ref a1)] 1)) t := fun t kk_ => castTop (ef_prog_44_method_8_code_R m a1) kk_
  obtain ⟨T120, X120, e120, st120⟩ := getF X0 hx hZ hown (host := "") (Or.inl (W 67 rfl)) Via.refl e0 F_bytes_a1 (g := (mkF m 1 #[.val (.ref a1)] [(.ref a1)])) rfl rfl (hb hby dx_prog_44_method_8_code_1)
  obtain ⟨T121, X121, e121, st121⟩ := getF X120 hx hZ hown (host := "") (Or.inl (W 67 rfl)) Via.refl e120 F_bytes_a1 (g := (mkF m 12 #[.val (.ref a1)] [(.ref a1)])) rfl rfl (hb hby dx_prog_44_method_8_code_12)
  obtain ⟨T122, h122, X122, e122, E122, A122, Q122, st122⟩ := cloneH X121 hx hZ hown (W 40 rfl) (W 41 rfl) (W 45 rfl) (W 43 rfl) (W 44 rfl) (W 46 rfl) e121 (Arv.arh V_a3) E_a3 (g := (mkF m 15 #[.val (.ref a1)] [(.ref a3)])) rfl (by rw [hml]; rfl) rfl (hb hby dx_prog_44_method_8_code_15) (by decide) (W := 0) (cap := 4) (by show 2 * 0 + _ ≤ _; exact Nat.le_of_eq rfl) (by decide) hz (by decide) (by decide)
  obtain ⟨b122, g122⟩ : ∃ z, z = h0.size := ⟨_, rfl⟩
  rw [← g122] at A122 Q122 st122
  have Z123 : n0 ≤ h122.size := Nat.le_trans Z0 E122.1
  have K0_123 : Keep h0 h122 [] := (Keep.refl h0 []).ext E122
  have O123 : Old Z n0 h122 := X00.ext E122
  have lo_b122 : h0.size ≤ b122 := Nat.le_of_eq g122.symm
  have g_b122 : n0 ≤ b122 := Nat.le_trans Z0 lo_b122
  have l0_b122 : h0.size ≤ b122 := Nat.le_trans (Keep.refl h0 []).1 lo_b122
  have V_b122 : Arv Z h122 b122 kb .byte z vs (.int (0 : Int32)) := A122
  obtain ⟨T124, X124, e124, st124⟩ := castY X122 hx hZ hown (W 47 rfl) e122 (Ins.self Q122) (g := (mkF m 18 #[.val (.ref a1)] [(.ref b122)])) rfl rfl (hb hby dx_prog_44_method_8_code_18)
  obtain ⟨fs, hr, hrun, hended, hW, hsame⟩ := X124.leave (v := some (.ref b122)) (fun h => by rw [Bd.returns] at h; cases h)
  refine ⟨_, _, pre0 _ ?_, hrun, hended, _, _, rfl, ?_, ⟨_, rfl⟩, hW, hsame.mono (Nat.le_of_ble_eq_true rfl) (Nat.le_of_ble_eq_true rfl)⟩
  · show Steps p.tables e below (s₁.setTop (mkF m 0 #[.val (.ref a1)] [])) _
    refine XS.aloadN X0.here hx rfl (hb hby dx_prog_44_method_8_code_0) rfl rfl ?_
    refine st120 _ ?_
    show Steps p.tables e below (T120.setTop (mkF m 4 #[.val (.ref a1)] [(.ref a3)])) _
    refine XS.ifnonnullYes X120.here hx rfl (pc0 := 4) (pc' := 11) rfl (hb hby dx_prog_44_method_8_code_4) rfl (by decide) (by decide) ?_
    refine XS.aloadN X120.here hx rfl (hb hby dx_prog_44_method_8_code_11) rfl rfl ?_
    refine st121 _ ?_
    show Steps p.tables e below (T121.setTop (mkF m 15 #[.val (.ref a1)] [(.ref a3)])) _
    refine st122 _ ?_
    show Steps p.tables e below (T122.setTop (mkF m 18 #[.val (.ref a1)] [(.ref b122)])) _
    refine st124 _ ?_
    show Steps p.tables e below (T124.setTop (mkF m 21 #[.val (.ref a1)] [(.ref b122)])) _
    exact retOut X124 hx Bd.returns rfl (Or.inr (Or.inr (Or.inr (Or.inr ⟨rfl, rfl, rfl⟩)))) (hb hby dx_prog_44_method_8_code_21) hr
  · show Qbyt Z G1 a1 a3 kb z vs h0 n0 _ T124.heap _
    rw [e124]
    exact ⟨b122, rfl, N0, K0_123, l0_b122, Q122, V_b122⟩
theorem dx_prog_44_method_4_code_0 : decode prog_44_method_4_code 0 = .ok (.aload_n 0, 1) := by decide +kernel
theorem dx_prog_44_method_4_code_1 : decode prog_44_method_4_code 1 = .ok (.getfield 17, 3) := by decide +kernel
theorem dx_prog_44_method_4_code_4 : decode prog_44_method_4_code 4 = .ok (.areturn, 1) := by decide +kernel
def QG_McpResourceContents_uri (Z : State) (G1 : Int32) (a1 : Addr) (u : Value) (h0 : Heap) (n0 : Nat) (v : Option Value) (h : Heap) (L : List Loc) : Prop := v = some u ∧ Fr n0 L ∧ h = h0
theorem ef_prog_44_method_4_code_R (m : MethodId) (x0 : Addr) : entryFrame m #[(.ref x0)] 1 = mkF m 0 #[.val (.ref x0)] [] := by first | (simp [entryFrame, mkF, argsToLocals, Value.category]; done) | rfl
abbrev y7 : MethodName := ⟨"com/example/larkbridge/larkbridge/mcp/McpResourceContents", "uri", "()Ljava/lang/String;"⟩
set_option maxRecDepth 65536 in
set_option maxHeartbeats 40000000 in
theorem rmG_McpResourceContents_uri (l : Launch) (Z : State) (a0 : Array Value) (G1 : Int32) (hG : Glob Z a0 G1) (ws : List Jvm.Cond) (a1 : Addr) (u : Value) (h0 : Heap) (n0 : Nat) (Z0 : n0 ≤ h0.size) (X00 : Old Z n0 h0) (F_uri_a1 : Fld Z h0 a1 "com/example/larkbridge/larkbridge/mcp/McpResourceContents" "uri" "Ljava/lang/String;" u) (ru : u.isRef = true) :
    MetFree l y7 (head1 (Jvm.Cond.code y7 prog_44_method_4_code 1 (some (.object "java/lang/String")) :: ws) ({ frames := 0, cells := 0, slots := 0, locals := 0 } : Room)) (fun a U => a = #[(.ref a1)] ∧ Z.Warmed39 U.vm ∧ U.heap = h0) (fun _ _ _ _ _ => True) (fun _ U o U' => ∃ v L, o = .returned v ∧ QG_McpResourceContents_uri Z G1 a1 u h0 n0 v U'.heap L ∧ FrameEnd U o U' L ({ frames := 0, cells := 0, slots := 0, locals := 0 } : Room).cells ({ frames := 0, cells := 0, slots := 0, locals := 0 } : Room).slots) := by
  obtain ⟨hw, O_cs, P_cs⟩ := id hG
  have W : ∀ (i : Nat) {d : Jvm.Cond}, tables_1[i]? = some d → d.before a0 Z = true := fun i d h => hw d (List.mem_of_getElem? h)
  refine MetFree.of_bodySF (plainFor_of_name pn_com_example_larkbridge_larkbridge_mcp_McpResourceContents) hisR ?_
  intro p e s m args below meth c s₁ Bd hml0 hP hK
  obtain ⟨rfl, hZ, hh⟩ := hP
  have hx := Bd.exec
  have hby := Bd.bytes
  have hml : c.maxLocals = 1 := hml0
  have hown : s.vm.findClass "com/example/larkbridge/larkbridge/mcp/McpResourceContents" = some m.cls := findClass_of_methodNamed Bd.named
  have hnm := (name_of_methodNamed Bd.named Bd.method).1
  have X0 : Stand p l e ({ frames := 0, cells := 0, slots := 0, locals := 0 } : Room) s m #[(.ref a1)] below meth c s₁ [] 0 0 := Stand.of_body Bd
  have e0 : s₁.heap = h0 := by rw [← hh, Bd.state]; rfl
  have N0 := Fr.nil n0
  have pre0 : ∀ t, Steps p.tables e below (s₁.setTop (mkF m 0 #[.val (.ref a1)] [])) t → Steps p.tables e below (s₁.setTop (entryFrame m #[(.ref a1)] 1)) t := fun t kk_ => castTop (ef_prog_44_method_4_code_R m a1) kk_
  obtain ⟨T125, X125, e125, st125⟩ := getF X0 hx hZ hown (host := "") (Or.inl (W 61 rfl)) Via.refl e0 F_uri_a1 (g := (mkF m 1 #[.val (.ref a1)] [(.ref a1)])) rfl rfl (hb hby dx_prog_44_method_4_code_1)
  obtain ⟨fs, hr, hrun, hended, hW, hsame⟩ := X125.leave (v := some u) (fun h => by rw [Bd.returns] at h; cases h)
  refine ⟨_, _, pre0 _ ?_, hrun, hended, _, _, rfl, ?_, ⟨_, rfl⟩, hW, hsame.mono (Nat.le_of_ble_eq_true rfl) (Nat.le_of_ble_eq_true rfl)⟩
  · show Steps p.tables e below (s₁.setTop (mkF m 0 #[.val (.ref a1)] [])) _
    refine XS.aloadN X0.here hx rfl (hb hby dx_prog_44_method_4_code_0) rfl rfl ?_
    refine st125 _ ?_
    show Steps p.tables e below (T125.setTop (mkF m 4 #[.val (.ref a1)] [u])) _
    exact retOut X125 hx Bd.returns (own_nar rfl ru) (Or.inr (Or.inr (Or.inr (Or.inr ⟨rfl, rfl, ru⟩)))) (hb hby dx_prog_44_method_4_code_4) hr
  · show QG_McpResourceContents_uri Z G1 a1 u h0 n0 _ T125.heap _
    rw [e125]
    exact ⟨rfl, N0, rfl⟩
theorem dx_prog_44_method_5_code_0 : decode prog_44_method_5_code 0 = .ok (.aload_n 0, 1) := by decide +kernel
theorem dx_prog_44_method_5_code_1 : decode prog_44_method_5_code 1 = .ok (.getfield 22, 3) := by decide +kernel
theorem dx_prog_44_method_5_code_4 : decode prog_44_method_5_code 4 = .ok (.areturn, 1) := by decide +kernel
def QG_McpResourceContents_mimeType (Z : State) (G1 : Int32) (a1 : Addr) (u : Value) (h0 : Heap) (n0 : Nat) (v : Option Value) (h : Heap) (L : List Loc) : Prop := v = some u ∧ Fr n0 L ∧ h = h0
theorem ef_prog_44_method_5_code_R (m : MethodId) (x0 : Addr) : entryFrame m #[(.ref x0)] 1 = mkF m 0 #[.val (.ref x0)] [] := by first | (simp [entryFrame, mkF, argsToLocals, Value.category]; done) | rfl
abbrev y8 : MethodName := ⟨"com/example/larkbridge/larkbridge/mcp/McpResourceContents", "mimeType", "()Ljava/lang/String;"⟩
set_option maxRecDepth 65536 in
set_option maxHeartbeats 40000000 in
theorem rmG_McpResourceContents_mimeType (l : Launch) (Z : State) (a0 : Array Value) (G1 : Int32) (hG : Glob Z a0 G1) (ws : List Jvm.Cond) (a1 : Addr) (u : Value) (h0 : Heap) (n0 : Nat) (Z0 : n0 ≤ h0.size) (X00 : Old Z n0 h0) (F_mimeType_a1 : Fld Z h0 a1 "com/example/larkbridge/larkbridge/mcp/McpResourceContents" "mimeType" "Ljava/lang/String;" u) (ru : u.isRef = true) :
    MetFree l y8 (head1 (Jvm.Cond.code y8 prog_44_method_5_code 1 (some (.object "java/lang/String")) :: ws) ({ frames := 0, cells := 0, slots := 0, locals := 0 } : Room)) (fun a U => a = #[(.ref a1)] ∧ Z.Warmed39 U.vm ∧ U.heap = h0) (fun _ _ _ _ _ => True) (fun _ U o U' => ∃ v L, o = .returned v ∧ QG_McpResourceContents_mimeType Z G1 a1 u h0 n0 v U'.heap L ∧ FrameEnd U o U' L ({ frames := 0, cells := 0, slots := 0, locals := 0 } : Room).cells ({ frames := 0, cells := 0, slots := 0, locals := 0 } : Room).slots) := by
  obtain ⟨hw, O_cs, P_cs⟩ := id hG
  have W : ∀ (i : Nat) {d : Jvm.Cond}, tables_1[i]? = some d → d.before a0 Z = true := fun i d h => hw d (List.mem_of_getElem? h)
  refine MetFree.of_bodySF (plainFor_of_name pn_com_example_larkbridge_larkbridge_mcp_McpResourceContents) hisR ?_
  intro p e s m args below meth c s₁ Bd hml0 hP hK
  obtain ⟨rfl, hZ, hh⟩ := hP
  have hx := Bd.exec
  have hby := Bd.bytes
  have hml : c.maxLocals = 1 := hml0
  have hown : s.vm.findClass "com/example/larkbridge/larkbridge/mcp/McpResourceContents" = some m.cls := findClass_of_methodNamed Bd.named
  have hnm := (name_of_methodNamed Bd.named Bd.method).1
  have X0 : Stand p l e ({ frames := 0, cells := 0, slots := 0, locals := 0 } : Room) s m #[(.ref a1)] below meth c s₁ [] 0 0 := Stand.of_body Bd
  have e0 : s₁.heap = h0 := by rw [← hh, Bd.state]; rfl
  have N0 := Fr.nil n0
  have pre0 : ∀ t, Steps p.tables e below (s₁.setTop (mkF m 0 #[.val (.ref a1)] [])) t → Steps p.tables e below (s₁.setTop (entryFrame m #[(.ref a1)] 1)) t := fun t kk_ => castTop (ef_prog_44_method_5_code_R m a1) kk_
  obtain ⟨T126, X126, e126, st126⟩ := getF X0 hx hZ hown (host := "") (Or.inl (W 63 rfl)) Via.refl e0 F_mimeType_a1 (g := (mkF m 1 #[.val (.ref a1)] [(.ref a1)])) rfl rfl (hb hby dx_prog_44_method_5_code_1)
  obtain ⟨fs, hr, hrun, hended, hW, hsame⟩ := X126.leave (v := some u) (fun h => by rw [Bd.returns] at h; cases h)
  refine ⟨_, _, pre0 _ ?_, hrun, hended, _, _, rfl, ?_, ⟨_, rfl⟩, hW, hsame.mono (Nat.le_of_ble_eq_true rfl) (Nat.le_of_ble_eq_true rfl)⟩
  · show Steps p.tables e below (s₁.setTop (mkF m 0 #[.val (.ref a1)] [])) _
    refine XS.aloadN X0.here hx rfl (hb hby dx_prog_44_method_5_code_0) rfl rfl ?_
    refine st126 _ ?_
    show Steps p.tables e below (T126.setTop (mkF m 4 #[.val (.ref a1)] [u])) _
    exact retOut X126 hx Bd.returns (own_nar rfl ru) (Or.inr (Or.inr (Or.inr (Or.inr ⟨rfl, rfl, ru⟩)))) (hb hby dx_prog_44_method_5_code_4) hr
  · show QG_McpResourceContents_mimeType Z G1 a1 u h0 n0 _ T126.heap _
    rw [e126]
    exact ⟨rfl, N0, rfl⟩
theorem dx_prog_44_method_6_code_0 : decode prog_44_method_6_code 0 = .ok (.aload_n 0, 1) := by decide +kernel
theorem dx_prog_44_method_6_code_1 : decode prog_44_method_6_code 1 = .ok (.getfield 25, 3) := by decide +kernel
theorem dx_prog_44_method_6_code_4 : decode prog_44_method_6_code 4 = .ok (.ifnull 7, 3) := by decide +kernel
theorem dx_prog_44_method_6_code_11 : decode prog_44_method_6_code 11 = .ok (.iconst 0, 1) := by decide +kernel
theorem dx_prog_44_method_6_code_12 : decode prog_44_method_6_code 12 = .ok (.ireturn, 1) := by decide +kernel
def Qist (Z : State) (G1 : Int32) (a1 : Addr) (h0 : Heap) (n0 : Nat) (v : Option Value) (h : Heap) (L : List Loc) : Prop := v = some (.int (0 : Int32)) ∧ Fr n0 L ∧ h = h0
theorem ef_prog_44_method_6_code_R (m : MethodId) (x0 : Addr) : entryFrame m #[(.ref x0)] 1 = mkF m 0 #[.val (.ref x0)] [] := by first | (simp [entryFrame, mkF, argsToLocals, Value.category]; done) | rfl
abbrev y9 : MethodName := ⟨"com/example/larkbridge/larkbridge/mcp/McpResourceContents", "isText", "()Z"⟩
set_option maxRecDepth 65536 in
set_option maxHeartbeats 40000000 in
theorem rmist (l : Launch) (Z : State) (a0 : Array Value) (G1 : Int32) (hG : Glob Z a0 G1) (ws : List Jvm.Cond) (a1 : Addr) (h0 : Heap) (n0 : Nat) (Z0 : n0 ≤ h0.size) (X00 : Old Z n0 h0) (F_text_a1 : Fld Z h0 a1 "com/example/larkbridge/larkbridge/mcp/McpResourceContents" "text" "Ljava/lang/String;" .null) :
    MetFree l y9 (head1 (Jvm.Cond.code y9 prog_44_method_6_code 1 (some .boolean) :: ws) ({ frames := 0, cells := 0, slots := 0, locals := 0 } : Room)) (fun a U => a = #[(.ref a1)] ∧ Z.Warmed39 U.vm ∧ U.heap = h0) (fun _ _ _ _ _ => True) (fun _ U o U' => ∃ v L, o = .returned v ∧ Qist Z G1 a1 h0 n0 v U'.heap L ∧ FrameEnd U o U' L ({ frames := 0, cells := 0, slots := 0, locals := 0 } : Room).cells ({ frames := 0, cells := 0, slots := 0, locals := 0 } : Room).slots) := by
  obtain ⟨hw, O_cs, P_cs⟩ := id hG
  have W : ∀ (i : Nat) {d : Jvm.Cond}, tables_1[i]? = some d → d.before a0 Z = true := fun i d h => hw d (List.mem_of_getElem? h)
  refine MetFree.of_bodySF (plainFor_of_name pn_com_example_larkbridge_larkbridge_mcp_McpResourceContents) hisR ?_
  intro p e s m args below meth c s₁ Bd hml0 hP hK
  obtain ⟨rfl, hZ, hh⟩ := hP
  have hx := Bd.exec
  have hby := Bd.bytes
  have hml : c.maxLocals = 1 := hml0
  have hown : s.vm.findClass "com/example/larkbridge/larkbridge/mcp/McpResourceContents" = some m.cls := findClass_of_methodNamed Bd.named
  have hnm := (name_of_methodNamed Bd.named Bd.method).1
  have X0 : Stand p l e ({ frames := 0, cells := 0, slots := 0, locals := 0 } : Room) s m #[(.ref a1)] below meth c s₁ [] 0 0 := Stand.of_body Bd
  have e0 : s₁.heap = h0 := by rw [← hh, Bd.state]; rfl
  have N0 := Fr.nil n0
  have pre0 : ∀ t, Steps p.tables e below (s₁.setTop (mkF m 0 #[.val (.ref a1)] [])) t → Steps p.tables e below (s₁.setTop (entryFrame m #[(.ref a1)] 1)) t := fun t kk_ => castTop (ef_prog_44_method_6_code_R m a1) kk_
  obtain ⟨T127, X127, e127, st127⟩ := getF X0 hx hZ hown (host := "") (Or.inl (W 65 rfl)) Via.refl e0 F_text_a1 (g := (mkF m 1 #[.val (.ref a1)] [(.ref a1)])) rfl rfl (hb hby dx_prog_44_method_6_code_1)
  obtain ⟨fs, hr, hrun, hended, hW, hsame⟩ := X127.leave (v := some (.int (0 : Int32))) (fun h => by rw [Bd.returns] at h; cases h)
  refine ⟨_, _, pre0 _ ?_, hrun, hended, _, _, rfl, ?_, ⟨_, rfl⟩, hW, hsame.mono (Nat.le_of_ble_eq_true rfl) (Nat.le_of_ble_eq_true rfl)⟩
  · show Steps p.tables e below (s₁.setTop (mkF m 0 #[.val (.ref a1)] [])) _
    refine XS.aloadN X0.here hx rfl (hb hby dx_prog_44_method_6_code_0) rfl rfl ?_
    refine st127 _ ?_
    show Steps p.tables e below (T127.setTop (mkF m 4 #[.val (.ref a1)] [.null])) _
    refine XS.ifnullYes X127.here hx rfl (pc0 := 4) (pc' := 11) rfl (hb hby dx_prog_44_method_6_code_4) rfl (by decide) (by decide) ?_
    refine XS.iconst X127.here hx rfl (hb hby dx_prog_44_method_6_code_11) ?_
    exact retN X127 hx (t := .boolean) Bd.returns (by simp) (hb hby dx_prog_44_method_6_code_12) hr
  · show Qist Z G1 a1 h0 n0 _ T127.heap _
    rw [e127]
    exact ⟨rfl, N0, rfl⟩
theorem dx_prog_44_method_7_code_0 : decode prog_44_method_7_code 0 = .ok (.aload_n 0, 1) := by decide +kernel
theorem dx_prog_44_method_7_code_1 : decode prog_44_method_7_code 1 = .ok (.getfield 25, 3) := by decide +kernel
theorem dx_prog_44_method_7_code_4 : decode prog_44_method_7_code 4 = .ok (.areturn, 1) := by decide +kernel
def Qtxt (Z : State) (G1 : Int32) (a1 : Addr) (h0 : Heap) (n0 : Nat) (v : Option Value) (h : Heap) (L : List Loc) : Prop := v = some .null ∧ Fr n0 L ∧ h = h0
theorem ef_prog_44_method_7_code_R (m : MethodId) (x0 : Addr) : entryFrame m #[(.ref x0)] 1 = mkF m 0 #[.val (.ref x0)] [] := by first | (simp [entryFrame, mkF, argsToLocals, Value.category]; done) | rfl
abbrev y10 : MethodName := ⟨"com/example/larkbridge/larkbridge/mcp/McpResourceContents", "text", "()Ljava/lang/String;"⟩
set_option maxRecDepth 65536 in
set_option maxHeartbeats 40000000 in
theorem rmtxt (l : Launch) (Z : State) (a0 : Array Value) (G1 : Int32) (hG : Glob Z a0 G1) (ws : List Jvm.Cond) (a1 : Addr) (h0 : Heap) (n0 : Nat) (Z0 : n0 ≤ h0.size) (X00 : Old Z n0 h0) (F_text_a1 : Fld Z h0 a1 "com/example/larkbridge/larkbridge/mcp/McpResourceContents" "text" "Ljava/lang/String;" .null) :
    MetFree l y10 (head1 (Jvm.Cond.code y10 prog_44_method_7_code 1 (some (.object "java/lang/String")) :: ws) ({ frames := 0, cells := 0, slots := 0, locals := 0 } : Room)) (fun a U => a = #[(.ref a1)] ∧ Z.Warmed39 U.vm ∧ U.heap = h0) (fun _ _ _ _ _ => True) (fun _ U o U' => ∃ v L, o = .returned v ∧ Qtxt Z G1 a1 h0 n0 v U'.heap L ∧ FrameEnd U o U' L ({ frames := 0, cells := 0, slots := 0, locals := 0 } : Room).cells ({ frames := 0, cells := 0, slots := 0, locals := 0 } : Room).slots) := by
  obtain ⟨hw, O_cs, P_cs⟩ := id hG
  have W : ∀ (i : Nat) {d : Jvm.Cond}, tables_1[i]? = some d → d.before a0 Z = true := fun i d h => hw d (List.mem_of_getElem? h)
  refine MetFree.of_bodySF (plainFor_of_name pn_com_example_larkbridge_larkbridge_mcp_McpResourceContents) hisR ?_
  intro p e s m args below meth c s₁ Bd hml0 hP hK
  obtain ⟨rfl, hZ, hh⟩ := hP
  have hx := Bd.exec
  have hby := Bd.bytes
  have hml : c.maxLocals = 1 := hml0
  have hown : s.vm.findClass "com/example/larkbridge/larkbridge/mcp/McpResourceContents" = some m.cls := findClass_of_methodNamed Bd.named
  have hnm := (name_of_methodNamed Bd.named Bd.method).1
  have X0 : Stand p l e ({ frames := 0, cells := 0, slots := 0, locals := 0 } : Room) s m #[(.ref a1)] below meth c s₁ [] 0 0 := Stand.of_body Bd
  have e0 : s₁.heap = h0 := by rw [← hh, Bd.state]; rfl
  have N0 := Fr.nil n0
  have pre0 : ∀ t, Steps p.tables e below (s₁.setTop (mkF m 0 #[.val (.ref a1)] [])) t → Steps p.tables e below (s₁.setTop (entryFrame m #[(.ref a1)] 1)) t := fun t kk_ => castTop (ef_prog_44_method_7_code_R m a1) kk_
  obtain ⟨T128, X128, e128, st128⟩ := getF X0 hx hZ hown (host := "") (Or.inl (W 65 rfl)) Via.refl e0 F_text_a1 (g := (mkF m 1 #[.val (.ref a1)] [(.ref a1)])) rfl rfl (hb hby dx_prog_44_method_7_code_1)
  obtain ⟨fs, hr, hrun, hended, hW, hsame⟩ := X128.leave (v := some .null) (fun h => by rw [Bd.returns] at h; cases h)
  refine ⟨_, _, pre0 _ ?_, hrun, hended, _, _, rfl, ?_, ⟨_, rfl⟩, hW, hsame.mono (Nat.le_of_ble_eq_true rfl) (Nat.le_of_ble_eq_true rfl)⟩
  · show Steps p.tables e below (s₁.setTop (mkF m 0 #[.val (.ref a1)] [])) _
    refine XS.aloadN X0.here hx rfl (hb hby dx_prog_44_method_7_code_0) rfl rfl ?_
    refine st128 _ ?_
    show Steps p.tables e below (T128.setTop (mkF m 4 #[.val (.ref a1)] [.null])) _
    exact retOut X128 hx Bd.returns rfl (Or.inr (Or.inr (Or.inr (Or.inr ⟨rfl, rfl, rfl⟩)))) (hb hby dx_prog_44_method_7_code_4) hr
  · show Qtxt Z G1 a1 h0 n0 _ T128.heap _
    rw [e128]
    exact ⟨rfl, N0, rfl⟩
theorem dx_jdk_42_method_66_code_0 : decode jdk_42_method_66_code 0 = .ok (.aload_n 0, 1) := by decide +kernel
theorem dx_jdk_42_method_66_code_1 : decode jdk_42_method_66_code 1 = .ok (.aload_n 1, 1) := by decide +kernel
theorem dx_jdk_42_method_66_code_2 : decode jdk_42_method_66_code 2 = .ok (.if_acmp .ne 5, 3) := by decide +kernel
theorem dx_jdk_42_method_66_code_5 : decode jdk_42_method_66_code 5 = .ok (.iconst 1, 1) := by decide +kernel
theorem dx_jdk_42_method_66_code_6 : decode jdk_42_method_66_code 6 = .ok (.ireturn, 1) := by decide +kernel
def Qeqs (Z : State) (G1 : Int32) (a1 : Addr) (h0 : Heap) (n0 : Nat) (v : Option Value) (h : Heap) (L : List Loc) : Prop := v = some (.int (1 : Int32)) ∧ Fr n0 L ∧ h = h0
theorem ef_jdk_42_method_66_code_RR (m : MethodId) (x0 : Addr) (x1 : Addr) : entryFrame m #[(.ref x0), (.ref x1)] 3 = mkF m 0 #[.val (.ref x0), .val (.ref x1), .unset] [] := by first | (simp [entryFrame, mkF, argsToLocals, Value.category]; done) | rfl
abbrev y11 : MethodName := ⟨"java/lang/String", "equals", "(Ljava/lang/Object;)Z"⟩
set_option maxRecDepth 65536 in
set_option maxHeartbeats 40000000 in
theorem rmeqs (l : Launch) (Z : State) (a0 : Array Value) (G1 : Int32) (hG : Glob Z a0 G1) (ws : List Jvm.Cond) (a1 : Addr) (h0 : Heap) (n0 : Nat) (Z0 : n0 ≤ h0.size) (X00 : Old Z n0 h0) :
    MetFree l y11 (head1 (Jvm.Cond.code y11 jdk_42_method_66_code 3 (some .boolean) :: ws) ({ frames := 0, cells := 0, slots := 0, locals := 0 } : Room)) (fun a U => a = #[(.ref a1), (.ref a1)] ∧ Z.Warmed39 U.vm ∧ U.heap = h0) (fun _ _ _ _ _ => True) (fun _ U o U' => ∃ v L, o = .returned v ∧ Qeqs Z G1 a1 h0 n0 v U'.heap L ∧ FrameEnd U o U' L ({ frames := 0, cells := 0, slots := 0, locals := 0 } : Room).cells ({ frames := 0, cells := 0, slots := 0, locals := 0 } : Room).slots) := by
  obtain ⟨hw, O_cs, P_cs⟩ := id hG
  have W : ∀ (i : Nat) {d : Jvm.Cond}, tables_1[i]? = some d → d.before a0 Z = true := fun i d h => hw d (List.mem_of_getElem? h)
  refine MetFree.of_bodySF (plainFor_of_name pn_java_lang_String) hisR ?_
  intro p e s m args below meth c s₁ Bd hml0 hP hK
  obtain ⟨rfl, hZ, hh⟩ := hP
  have hx := Bd.exec
  have hby := Bd.bytes
  have hml : c.maxLocals = 3 := hml0
  have hown : s.vm.findClass "java/lang/String" = some m.cls := findClass_of_methodNamed Bd.named
  have hnm := (name_of_methodNamed Bd.named Bd.method).1
  have X0 : Stand p l e ({ frames := 0, cells := 0, slots := 0, locals := 0 } : Room) s m #[(.ref a1), (.ref a1)] below meth c s₁ [] 0 0 := Stand.of_body Bd
  have e0 : s₁.heap = h0 := by rw [← hh, Bd.state]; rfl
  have N0 := Fr.nil n0
  have pre0 : ∀ t, Steps p.tables e below (s₁.setTop (mkF m 0 #[.val (.ref a1), .val (.ref a1), .unset] [])) t → Steps p.tables e below (s₁.setTop (entryFrame m #[(.ref a1), (.ref a1)] 3)) t := fun t kk_ => castTop (ef_jdk_42_method_66_code_RR m a1 a1) kk_
  obtain ⟨fs, hr, hrun, hended, hW, hsame⟩ := X0.leave (v := some (.int (1 : Int32))) (fun h => by rw [Bd.returns] at h; cases h)
  refine ⟨_, _, pre0 _ ?_, hrun, hended, _, _, rfl, ?_, ⟨_, rfl⟩, hW, hsame.mono (Nat.le_of_ble_eq_true rfl) (Nat.le_of_ble_eq_true rfl)⟩
  · show Steps p.tables e below (s₁.setTop (mkF m 0 #[.val (.ref a1), .val (.ref a1), .unset] [])) _
    refine XS.aloadN X0.here hx rfl (hb hby dx_jdk_42_method_66_code_0) rfl rfl ?_
    refine XS.aloadN X0.here hx rfl (hb hby dx_jdk_42_method_66_code_1) rfl rfl ?_
    refine Jvm.RoadKit.acmp (g := (mkF m 2 #[.val (.ref a1), .val (.ref a1), .unset] [(.ref a1), (.ref a1)])) X0 hx rfl rfl rfl (pc0 := 2) (pc' := 5) (same := true) rfl (hb hby dx_jdk_42_method_66_code_2) rfl (decide_eq_true rfl) (by decide) (by decide) ?_
    refine XS.iconst X0.here hx rfl (hb hby dx_jdk_42_method_66_code_5) ?_
    exact retN X0 hx (t := .boolean) Bd.returns (by simp) (hb hby dx_jdk_42_method_66_code_6) hr
  · show Qeqs Z G1 a1 h0 n0 _ s₁.heap _
    rw [e0]
    exact ⟨rfl, N0, rfl⟩
theorem own_b8 (x : Int32) : x.toInt8.toInt32.toInt8.toInt32 = x.toInt8.toInt32 := by simp
theorem dx_method_3_code_0 : decode method_3_code 0 = .ok (.aload_n 0, 1) := by decide +kernel
theorem dx_method_3_code_1 : decode method_3_code 1 = .ok (.ifnonnull 5, 3) := by decide +kernel
theorem dx_method_3_code_6 : decode method_3_code 6 = .ok (.aload_n 0, 1) := by decide +kernel
theorem dx_method_3_code_7 : decode method_3_code 7 = .ok (.arraylength, 1) := by decide +kernel
theorem dx_method_3_code_8 : decode method_3_code 8 = .ok (.iload_n 1, 1) := by decide +kernel
theorem dx_method_3_code_9 : decode method_3_code 9 = .ok (.if_icmp .eq 5, 3) := by decide +kernel
theorem dx_method_3_code_14 : decode method_3_code 14 = .ok (.iload_n 1, 1) := by decide +kernel
theorem dx_method_3_code_15 : decode method_3_code 15 = .ok (.ifCond .le 13, 3) := by decide +kernel
theorem dx_method_3_code_28 : decode method_3_code 28 = .ok (.iload_n 1, 1) := by decide +kernel
theorem dx_method_3_code_29 : decode method_3_code 29 = .ok (.iconst 1, 1) := by decide +kernel
theorem dx_method_3_code_30 : decode method_3_code 30 = .ok (.if_icmp .le 16, 3) := by decide +kernel
theorem dx_method_3_code_46 : decode method_3_code 46 = .ok (.iload_n 1, 1) := by decide +kernel
theorem dx_method_3_code_47 : decode method_3_code 47 = .ok (.iconst 2, 1) := by decide +kernel
theorem dx_method_3_code_48 : decode method_3_code 48 = .ok (.if_icmp .le 16, 3) := by decide +kernel
theorem dx_method_3_code_64 : decode method_3_code 64 = .ok (.iload_n 1, 1) := by decide +kernel
theorem dx_method_3_code_65 : decode method_3_code 65 = .ok (.iconst 3, 1) := by decide +kernel
theorem dx_method_3_code_66 : decode method_3_code 66 = .ok (.if_icmp .le 16, 3) := by decide +kernel
theorem dx_method_3_code_82 : decode method_3_code 82 = .ok (.iconst 1, 1) := by decide +kernel
theorem dx_method_3_code_83 : decode method_3_code 83 = .ok (.ireturn, 1) := by decide +kernel
def Qsame0 (Z : State) (G1 : Int32) (a1 : Addr) (d : Int32) (kb : ClassId) (h0 : Heap) (n0 : Nat) (v : Option Value) (h : Heap) (L : List Loc) : Prop := v = some (.int (1 : Int32)) ∧ Fr n0 L ∧ h = h0
theorem ef_method_3_code_RII (m : MethodId) (x0 : Addr) (x1 : Int32) (x2 : Int32) : entryFrame m #[(.ref x0), (.int x1), (.int x2)] 3 = mkF m 0 #[.val (.ref x0), .val (.int x1), .val (.int x2)] [] := by first | (simp [entryFrame, mkF, argsToLocals, Value.category]; done) | rfl
abbrev y12 : MethodName := ⟨"com/example/larkbridge/larkbridge/mcp/McpResourceContentsBinaryPinLaw", "same", "([BII)Z"⟩
set_option maxRecDepth 65536 in
set_option maxHeartbeats 40000000 in
theorem rmsame0 (l : Launch) (Z : State) (a0 : Array Value) (G1 : Int32) (hG : Glob Z a0 G1) (ws : List Jvm.Cond) (a1 : Addr) (d : Int32) (kb : ClassId) (h0 : Heap) (n0 : Nat) (Z0 : n0 ≤ h0.size) (X00 : Old Z n0 h0) (V_a1 : Arv Z h0 a1 kb .byte (0 : Int32) [] (.int (0 : Int32))) :
    MetFree l y12 (head1 (Jvm.Cond.code y12 method_3_code 3 (some .boolean) :: ws) ({ frames := 0, cells := 0, slots := 0, locals := 0 } : Room)) (fun a U => a = #[(.ref a1), (.int (0 : Int32)), (.int d)] ∧ Z.Warmed39 U.vm ∧ U.heap = h0) (fun _ _ _ _ _ => True) (fun _ U o U' => ∃ v L, o = .returned v ∧ Qsame0 Z G1 a1 d kb h0 n0 v U'.heap L ∧ FrameEnd U o U' L ({ frames := 0, cells := 0, slots := 0, locals := 0 } : Room).cells ({ frames := 0, cells := 0, slots := 0, locals := 0 } : Room).slots) := by
  obtain ⟨hw, O_cs, P_cs⟩ := id hG
  have W : ∀ (i : Nat) {d : Jvm.Cond}, tables_1[i]? = some d → d.before a0 Z = true := fun i d h => hw d (List.mem_of_getElem? h)
  refine MetFree.of_bodySF (plainFor_of_name pn_com_example_larkbridge_larkbridge_mcp_McpResourceContentsBinaryPinLaw) hisR ?_
  intro p e s m args below meth c s₁ Bd hml0 hP hK
  obtain ⟨rfl, hZ, hh⟩ := hP
  have hx := Bd.exec
  have hby := Bd.bytes
  have hml : c.maxLocals = 3 := hml0
  have hown : s.vm.findClass "com/example/larkbridge/larkbridge/mcp/McpResourceContentsBinaryPinLaw" = some m.cls := findClass_of_methodNamed Bd.named
  have hnm := (name_of_methodNamed Bd.named Bd.method).1
  have X0 : Stand p l e ({ frames := 0, cells := 0, slots := 0, locals := 0 } : Room) s m #[(.ref a1), (.int (0 : Int32)), (.int d)] below meth c s₁ [] 0 0 := Stand.of_body Bd
  have e0 : s₁.heap = h0 := by rw [← hh, Bd.state]; rfl
  have N0 := Fr.nil n0
  have pre0 : ∀ t, Steps p.tables e below (s₁.setTop (mkF m 0 #[.val (.ref a1), .val (.int (0 : Int32)), .val (.int d)] [])) t → Steps p.tables e below (s₁.setTop (entryFrame m #[(.ref a1), (.int (0 : Int32)), (.int d)] 3)) t := fun t kk_ => castTop (ef_method_3_code_RII m a1 (0 : Int32) d) kk_
  obtain ⟨clq129, Arq129, qaq129, Sq129, Nq129, Hq129, Gq129⟩ := id V_a1
  obtain ⟨fs, hr, hrun, hended, hW, hsame⟩ := X0.leave (v := some (.int (1 : Int32))) (fun h => by rw [Bd.returns] at h; cases h)
  refine ⟨_, _, pre0 _ ?_, hrun, hended, _, _, rfl, ?_, ⟨_, rfl⟩, hW, hsame.mono (Nat.le_of_ble_eq_true rfl) (Nat.le_of_ble_eq_true rfl)⟩
  · show Steps p.tables e below (s₁.setTop (mkF m 0 #[.val (.ref a1), .val (.int (0 : Int32)), .val (.int d)] [])) _
    refine XS.aloadN X0.here hx rfl (hb hby dx_method_3_code_0) rfl rfl ?_
    refine XS.ifnonnullYes X0.here hx rfl (pc0 := 1) (pc' := 6) rfl (hb hby dx_method_3_code_1) rfl (by decide) (by decide) ?_
    refine XS.aloadN X0.here hx rfl (hb hby dx_method_3_code_6) rfl rfl ?_
    refine X0.arraylength hx (own_cell e0 Arq129.1) (State.isArrayOf_alike hZ.alike Arq129.2.1) (g := (mkF m 7 #[.val (.ref a1), .val (.int (0 : Int32)), .val (.int d)] [(.ref a1)])) rfl rfl (hb hby dx_method_3_code_7) _ ?_
    rw [len_of Sq129 Nq129]
    refine XS.iloadN X0.here hx rfl (hb hby dx_method_3_code_8) rfl ?_
    refine XS.icmpYes X0.here hx rfl (pc0 := 9) (pc' := 14) rfl (hb hby dx_method_3_code_9) rfl (teq (by decide : (0 : Int32) = (0 : Int32))).1 (by decide) (by decide) ?_
    refine XS.iloadN X0.here hx rfl (hb hby dx_method_3_code_14) rfl ?_
    refine XS.ifYes X0.here hx rfl (pc0 := 15) (pc' := 28) rfl (hb hby dx_method_3_code_15) rfl ((if0 _ _).trans (flt (by decide : ¬ ((0 : Int32) < (0 : Int32)))).2.2.2) (by decide) (by decide) ?_
    show Steps p.tables e below (s₁.setTop (mkF m 28 #[.val (.ref a1), .val (.int (0 : Int32)), .val (.int d)] [])) _
    refine XS.iloadN X0.here hx rfl (hb hby dx_method_3_code_28) rfl ?_
    refine XS.iconst X0.here hx rfl (hb hby dx_method_3_code_29) ?_
    refine XS.icmpYes X0.here hx rfl (pc0 := 30) (pc' := 46) rfl (hb hby dx_method_3_code_30) rfl (flt (by decide : ¬ ((1 : Int32) < (0 : Int32)))).2.2.2 (by decide) (by decide) ?_
    refine XS.iloadN X0.here hx rfl (hb hby dx_method_3_code_46) rfl ?_
    refine XS.iconst X0.here hx rfl (hb hby dx_method_3_code_47) ?_
    refine XS.icmpYes X0.here hx rfl (pc0 := 48) (pc' := 64) rfl (hb hby dx_method_3_code_48) rfl (flt (by decide : ¬ ((2 : Int32) < (0 : Int32)))).2.2.2 (by decide) (by decide) ?_
    refine XS.iloadN X0.here hx rfl (hb hby dx_method_3_code_64) rfl ?_
    refine XS.iconst X0.here hx rfl (hb hby dx_method_3_code_65) ?_
    show Steps p.tables e below (s₁.setTop (mkF m 66 #[.val (.ref a1), .val (.int (0 : Int32)), .val (.int d)] [(.int (3 : Int32)), (.int (0 : Int32))])) _
    refine XS.icmpYes X0.here hx rfl (pc0 := 66) (pc' := 82) rfl (hb hby dx_method_3_code_66) rfl (flt (by decide : ¬ ((3 : Int32) < (0 : Int32)))).2.2.2 (by decide) (by decide) ?_
    refine XS.iconst X0.here hx rfl (hb hby dx_method_3_code_82) ?_
    exact retN X0 hx (t := .boolean) Bd.returns (by simp) (hb hby dx_method_3_code_83) hr
  · show Qsame0 Z G1 a1 d kb h0 n0 _ s₁.heap _
    rw [e0]
    exact ⟨rfl, N0, rfl⟩
theorem dx_method_3_code_18 : decode method_3_code 18 = .ok (.aload_n 0, 1) := by decide +kernel
theorem dx_method_3_code_19 : decode method_3_code 19 = .ok (.iconst 0, 1) := by decide +kernel
theorem dx_method_3_code_20 : decode method_3_code 20 = .ok (.baload, 1) := by decide +kernel
theorem dx_method_3_code_21 : decode method_3_code 21 = .ok (.iload_n 2, 1) := by decide +kernel
theorem dx_method_3_code_22 : decode method_3_code 22 = .ok (.i2b, 1) := by decide +kernel
theorem dx_method_3_code_23 : decode method_3_code 23 = .ok (.if_icmp .eq 5, 3) := by decide +kernel
def Qsame1 (Z : State) (G1 : Int32) (a1 : Addr) (d : Int32) (kb : ClassId) (h0 : Heap) (n0 : Nat) (v : Option Value) (h : Heap) (L : List Loc) : Prop := v = some (.int (1 : Int32)) ∧ Fr n0 L ∧ h = h0
set_option maxRecDepth 65536 in
set_option maxHeartbeats 40000000 in
theorem rmsame1 (l : Launch) (Z : State) (a0 : Array Value) (G1 : Int32) (hG : Glob Z a0 G1) (ws : List Jvm.Cond) (a1 : Addr) (d : Int32) (kb : ClassId) (h0 : Heap) (n0 : Nat) (Z0 : n0 ≤ h0.size) (X00 : Old Z n0 h0) (V_a1 : Arv Z h0 a1 kb .byte (1 : Int32) [(.int ((d.toInt8.toInt32).toInt8.toInt32))] (.int (0 : Int32))) :
    MetFree l y12 (head1 (Jvm.Cond.code y12 method_3_code 3 (some .boolean) :: ws) ({ frames := 0, cells := 0, slots := 0, locals := 0 } : Room)) (fun a U => a = #[(.ref a1), (.int (1 : Int32)), (.int d)] ∧ Z.Warmed39 U.vm ∧ U.heap = h0) (fun _ _ _ _ _ => True) (fun _ U o U' => ∃ v L, o = .returned v ∧ Qsame1 Z G1 a1 d kb h0 n0 v U'.heap L ∧ FrameEnd U o U' L ({ frames := 0, cells := 0, slots := 0, locals := 0 } : Room).cells ({ frames := 0, cells := 0, slots := 0, locals := 0 } : Room).slots) := by
  obtain ⟨hw, O_cs, P_cs⟩ := id hG
  have W : ∀ (i : Nat) {d : Jvm.Cond}, tables_1[i]? = some d → d.before a0 Z = true := fun i d h => hw d (List.mem_of_getElem? h)
  refine MetFree.of_bodySF (plainFor_of_name pn_com_example_larkbridge_larkbridge_mcp_McpResourceContentsBinaryPinLaw) hisR ?_
  intro p e s m args below meth c s₁ Bd hml0 hP hK
  obtain ⟨rfl, hZ, hh⟩ := hP
  have hx := Bd.exec
  have hby := Bd.bytes
  have hml : c.maxLocals = 3 := hml0
  have hown : s.vm.findClass "com/example/larkbridge/larkbridge/mcp/McpResourceContentsBinaryPinLaw" = some m.cls := findClass_of_methodNamed Bd.named
  have hnm := (name_of_methodNamed Bd.named Bd.method).1
  have X0 : Stand p l e ({ frames := 0, cells := 0, slots := 0, locals := 0 } : Room) s m #[(.ref a1), (.int (1 : Int32)), (.int d)] below meth c s₁ [] 0 0 := Stand.of_body Bd
  have e0 : s₁.heap = h0 := by rw [← hh, Bd.state]; rfl
  have N0 := Fr.nil n0
  have pre0 : ∀ t, Steps p.tables e below (s₁.setTop (mkF m 0 #[.val (.ref a1), .val (.int (1 : Int32)), .val (.int d)] [])) t → Steps p.tables e below (s₁.setTop (entryFrame m #[(.ref a1), (.int (1 : Int32)), (.int d)] 3)) t := fun t kk_ => castTop (ef_method_3_code_RII m a1 (1 : Int32) d) kk_
  obtain ⟨clq130, Arq130, qaq130, Sq130, Nq130, Hq130, Gq130⟩ := id V_a1
  obtain ⟨clq131, Arq131, qaq131, Sq131, Nq131, Hq131, Gq131⟩ := id V_a1
  have hinq131 : ¬ ((0 : Int32) < 0 ∨ clq131.slots.size ≤ ((0 : Int32)).toNatClampNeg) := inb_of Sq131 ⟨by decide, by decide⟩
  have hatq131 : clq131.slots[((0 : Int32)).toNatClampNeg]? = some (.int ((d.toInt8.toInt32).toInt8.toInt32)) := Has.at Hq131 hinq131 rfl
  obtain ⟨fs, hr, hrun, hended, hW, hsame⟩ := X0.leave (v := some (.int (1 : Int32))) (fun h => by rw [Bd.returns] at h; cases h)
  refine ⟨_, _, pre0 _ ?_, hrun, hended, _, _, rfl, ?_, ⟨_, rfl⟩, hW, hsame.mono (Nat.le_of_ble_eq_true rfl) (Nat.le_of_ble_eq_true rfl)⟩
  · show Steps p.tables e below (s₁.setTop (mkF m 0 #[.val (.ref a1), .val (.int (1 : Int32)), .val (.int d)] [])) _
    refine XS.aloadN X0.here hx rfl (hb hby dx_method_3_code_0) rfl rfl ?_
    refine XS.ifnonnullYes X0.here hx rfl (pc0 := 1) (pc' := 6) rfl (hb hby dx_method_3_code_1) rfl (by decide) (by decide) ?_
    refine XS.aloadN X0.here hx rfl (hb hby dx_method_3_code_6) rfl rfl ?_
    refine X0.arraylength hx (own_cell e0 Arq130.1) (State.isArrayOf_alike hZ.alike Arq130.2.1) (g := (mkF m 7 #[.val (.ref a1), .val (.int (1 : Int32)), .val (.int d)] [(.ref a1)])) rfl rfl (hb hby dx_method_3_code_7) _ ?_
    rw [len_of Sq130 Nq130]
    refine XS.iloadN X0.here hx rfl (hb hby dx_method_3_code_8) rfl ?_
    refine XS.icmpYes X0.here hx rfl (pc0 := 9) (pc' := 14) rfl (hb hby dx_method_3_code_9) rfl (teq (by decide : (1 : Int32) = (1 : Int32))).1 (by decide) (by decide) ?_
    refine XS.iloadN X0.here hx rfl (hb hby dx_method_3_code_14) rfl ?_
    refine XS.ifNo X0.here hx rfl (hb hby dx_method_3_code_15) rfl ((if0 _ _).trans (tlt (by decide : (0 : Int32) < (1 : Int32))).2.2.2) ?_
    show Steps p.tables e below (s₁.setTop (mkF m 18 #[.val (.ref a1), .val (.int (1 : Int32)), .val (.int d)] [])) _
    refine XS.aloadN X0.here hx rfl (hb hby dx_method_3_code_18) rfl rfl ?_
    refine XS.iconst X0.here hx rfl (hb hby dx_method_3_code_19) ?_
    refine X0.baloadBytes hx (j := (0 : Int32)) (v := (.int ((d.toInt8.toInt32).toInt8.toInt32))) (own_cell e0 Arq131.1) (State.isArrayOf_alike hZ.alike Arq131.2.1) Arq131.2.2 hinq131 hatq131 (g := (mkF m 20 #[.val (.ref a1), .val (.int (1 : Int32)), .val (.int d)] [(.int (0 : Int32)), (.ref a1)])) rfl rfl (hb hby dx_method_3_code_20) _ ?_
    refine XS.iloadN X0.here hx rfl (hb hby dx_method_3_code_21) rfl ?_
    refine XS.i2b X0.here hx rfl (hb hby dx_method_3_code_22) rfl ?_
    refine XS.icmpYes X0.here hx rfl (pc0 := 23) (pc' := 28) rfl (hb hby dx_method_3_code_23) rfl (teq (own_b8 _ : ((d.toInt8.toInt32).toInt8.toInt32) = (d.toInt8.toInt32))).1 (by decide) (by decide) ?_
    refine XS.iloadN X0.here hx rfl (hb hby dx_method_3_code_28) rfl ?_
    refine XS.iconst X0.here hx rfl (hb hby dx_method_3_code_29) ?_
    show Steps p.tables e below (s₁.setTop (mkF m 30 #[.val (.ref a1), .val (.int (1 : Int32)), .val (.int d)] [(.int (1 : Int32)), (.int (1 : Int32))])) _
    refine XS.icmpYes X0.here hx rfl (pc0 := 30) (pc' := 46) rfl (hb hby dx_method_3_code_30) rfl (flt (by decide : ¬ ((1 : Int32) < (1 : Int32)))).2.2.2 (by decide) (by decide) ?_
    refine XS.iloadN X0.here hx rfl (hb hby dx_method_3_code_46) rfl ?_
    refine XS.iconst X0.here hx rfl (hb hby dx_method_3_code_47) ?_
    refine XS.icmpYes X0.here hx rfl (pc0 := 48) (pc' := 64) rfl (hb hby dx_method_3_code_48) rfl (flt (by decide : ¬ ((2 : Int32) < (1 : Int32)))).2.2.2 (by decide) (by decide) ?_
    refine XS.iloadN X0.here hx rfl (hb hby dx_method_3_code_64) rfl ?_
    refine XS.iconst X0.here hx rfl (hb hby dx_method_3_code_65) ?_
    refine XS.icmpYes X0.here hx rfl (pc0 := 66) (pc' := 82) rfl (hb hby dx_method_3_code_66) rfl (flt (by decide : ¬ ((3 : Int32) < (1 : Int32)))).2.2.2 (by decide) (by decide) ?_
    refine XS.iconst X0.here hx rfl (hb hby dx_method_3_code_82) ?_
    show Steps p.tables e below (s₁.setTop (mkF m 83 #[.val (.ref a1), .val (.int (1 : Int32)), .val (.int d)] [(.int (1 : Int32))])) _
    exact retN X0 hx (t := .boolean) Bd.returns (by simp) (hb hby dx_method_3_code_83) hr
  · show Qsame1 Z G1 a1 d kb h0 n0 _ s₁.heap _
    rw [e0]
    exact ⟨rfl, N0, rfl⟩
theorem dx_method_3_code_33 : decode method_3_code 33 = .ok (.aload_n 0, 1) := by decide +kernel
theorem dx_method_3_code_34 : decode method_3_code 34 = .ok (.iconst 1, 1) := by decide +kernel
theorem dx_method_3_code_35 : decode method_3_code 35 = .ok (.baload, 1) := by decide +kernel
theorem dx_method_3_code_36 : decode method_3_code 36 = .ok (.iload_n 2, 1) := by decide +kernel
theorem dx_method_3_code_37 : decode method_3_code 37 = .ok (.bipush 8, 2) := by decide +kernel
theorem dx_method_3_code_39 : decode method_3_code 39 = .ok (.iushr, 1) := by decide +kernel
theorem dx_method_3_code_40 : decode method_3_code 40 = .ok (.i2b, 1) := by decide +kernel
theorem dx_method_3_code_41 : decode method_3_code 41 = .ok (.if_icmp .eq 5, 3) := by decide +kernel
def Qsame2 (Z : State) (G1 : Int32) (a1 : Addr) (d : Int32) (kb : ClassId) (h0 : Heap) (n0 : Nat) (v : Option Value) (h : Heap) (L : List Loc) : Prop := v = some (.int (1 : Int32)) ∧ Fr n0 L ∧ h = h0
set_option maxRecDepth 65536 in
set_option maxHeartbeats 40000000 in
theorem rmsame2 (l : Launch) (Z : State) (a0 : Array Value) (G1 : Int32) (hG : Glob Z a0 G1) (ws : List Jvm.Cond) (a1 : Addr) (d : Int32) (kb : ClassId) (h0 : Heap) (n0 : Nat) (Z0 : n0 ≤ h0.size) (X00 : Old Z n0 h0) (V_a1 : Arv Z h0 a1 kb .byte (2 : Int32) [(.int ((d.toInt8.toInt32).toInt8.toInt32)), (.int ((((d.toUInt32 >>> ((8 : Int32) &&& 31).toUInt32).toInt32).toInt8.toInt32).toInt8.toInt32))] (.int (0 : Int32))) :
    MetFree l y12 (head1 (Jvm.Cond.code y12 method_3_code 3 (some .boolean) :: ws) ({ frames := 0, cells := 0, slots := 0, locals := 0 } : Room)) (fun a U => a = #[(.ref a1), (.int (2 : Int32)), (.int d)] ∧ Z.Warmed39 U.vm ∧ U.heap = h0) (fun _ _ _ _ _ => True) (fun _ U o U' => ∃ v L, o = .returned v ∧ Qsame2 Z G1 a1 d kb h0 n0 v U'.heap L ∧ FrameEnd U o U' L ({ frames := 0, cells := 0, slots := 0, locals := 0 } : Room).cells ({ frames := 0, cells := 0, slots := 0, locals := 0 } : Room).slots) := by
  obtain ⟨hw, O_cs, P_cs⟩ := id hG
  have W : ∀ (i : Nat) {d : Jvm.Cond}, tables_1[i]? = some d → d.before a0 Z = true := fun i d h => hw d (List.mem_of_getElem? h)
  refine MetFree.of_bodySF (plainFor_of_name pn_com_example_larkbridge_larkbridge_mcp_McpResourceContentsBinaryPinLaw) hisR ?_
  intro p e s m args below meth c s₁ Bd hml0 hP hK
  obtain ⟨rfl, hZ, hh⟩ := hP
  have hx := Bd.exec
  have hby := Bd.bytes
  have hml : c.maxLocals = 3 := hml0
  have hown : s.vm.findClass "com/example/larkbridge/larkbridge/mcp/McpResourceContentsBinaryPinLaw" = some m.cls := findClass_of_methodNamed Bd.named
  have hnm := (name_of_methodNamed Bd.named Bd.method).1
  have X0 : Stand p l e ({ frames := 0, cells := 0, slots := 0, locals := 0 } : Room) s m #[(.ref a1), (.int (2 : Int32)), (.int d)] below meth c s₁ [] 0 0 := Stand.of_body Bd
  have e0 : s₁.heap = h0 := by rw [← hh, Bd.state]; rfl
  have N0 := Fr.nil n0
  have pre0 : ∀ t, Steps p.tables e below (s₁.setTop (mkF m 0 #[.val (.ref a1), .val (.int (2 : Int32)), .val (.int d)] [])) t → Steps p.tables e below (s₁.setTop (entryFrame m #[(.ref a1), (.int (2 : Int32)), (.int d)] 3)) t := fun t kk_ => castTop (ef_method_3_code_RII m a1 (2 : Int32) d) kk_
  obtain ⟨clq132, Arq132, qaq132, Sq132, Nq132, Hq132, Gq132⟩ := id V_a1
  obtain ⟨clq133, Arq133, qaq133, Sq133, Nq133, Hq133, Gq133⟩ := id V_a1
  have hinq133 : ¬ ((0 : Int32) < 0 ∨ clq133.slots.size ≤ ((0 : Int32)).toNatClampNeg) := inb_of Sq133 ⟨by decide, by decide⟩
  have hatq133 : clq133.slots[((0 : Int32)).toNatClampNeg]? = some (.int ((d.toInt8.toInt32).toInt8.toInt32)) := Has.at Hq133 hinq133 rfl
  obtain ⟨clq134, Arq134, qaq134, Sq134, Nq134, Hq134, Gq134⟩ := id V_a1
  have hinq134 : ¬ ((1 : Int32) < 0 ∨ clq134.slots.size ≤ ((1 : Int32)).toNatClampNeg) := inb_of Sq134 ⟨by decide, by decide⟩
  have hatq134 : clq134.slots[((1 : Int32)).toNatClampNeg]? = some (.int ((((d.toUInt32 >>> ((8 : Int32) &&& 31).toUInt32).toInt32).toInt8.toInt32).toInt8.toInt32)) := Has.at Hq134 hinq134 rfl
  obtain ⟨fs, hr, hrun, hended, hW, hsame⟩ := X0.leave (v := some (.int (1 : Int32))) (fun h => by rw [Bd.returns] at h; cases h)
  refine ⟨_, _, pre0 _ ?_, hrun, hended, _, _, rfl, ?_, ⟨_, rfl⟩, hW, hsame.mono (Nat.le_of_ble_eq_true rfl) (Nat.le_of_ble_eq_true rfl)⟩
  · show Steps p.tables e below (s₁.setTop (mkF m 0 #[.val (.ref a1), .val (.int (2 : Int32)), .val (.int d)] [])) _
    refine XS.aloadN X0.here hx rfl (hb hby dx_method_3_code_0) rfl rfl ?_
    refine XS.ifnonnullYes X0.here hx rfl (pc0 := 1) (pc' := 6) rfl (hb hby dx_method_3_code_1) rfl (by decide) (by decide) ?_
    refine XS.aloadN X0.here hx rfl (hb hby dx_method_3_code_6) rfl rfl ?_
    refine X0.arraylength hx (own_cell e0 Arq132.1) (State.isArrayOf_alike hZ.alike Arq132.2.1) (g := (mkF m 7 #[.val (.ref a1), .val (.int (2 : Int32)), .val (.int d)] [(.ref a1)])) rfl rfl (hb hby dx_method_3_code_7) _ ?_
    rw [len_of Sq132 Nq132]
    refine XS.iloadN X0.here hx rfl (hb hby dx_method_3_code_8) rfl ?_
    refine XS.icmpYes X0.here hx rfl (pc0 := 9) (pc' := 14) rfl (hb hby dx_method_3_code_9) rfl (teq (by decide : (2 : Int32) = (2 : Int32))).1 (by decide) (by decide) ?_
    refine XS.iloadN X0.here hx rfl (hb hby dx_method_3_code_14) rfl ?_
    refine XS.ifNo X0.here hx rfl (hb hby dx_method_3_code_15) rfl ((if0 _ _).trans (tlt (by decide : (0 : Int32) < (2 : Int32))).2.2.2) ?_
    show Steps p.tables e below (s₁.setTop (mkF m 18 #[.val (.ref a1), .val (.int (2 : Int32)), .val (.int d)] [])) _
    refine XS.aloadN X0.here hx rfl (hb hby dx_method_3_code_18) rfl rfl ?_
    refine XS.iconst X0.here hx rfl (hb hby dx_method_3_code_19) ?_
    refine X0.baloadBytes hx (j := (0 : Int32)) (v := (.int ((d.toInt8.toInt32).toInt8.toInt32))) (own_cell e0 Arq133.1) (State.isArrayOf_alike hZ.alike Arq133.2.1) Arq133.2.2 hinq133 hatq133 (g := (mkF m 20 #[.val (.ref a1), .val (.int (2 : Int32)), .val (.int d)] [(.int (0 : Int32)), (.ref a1)])) rfl rfl (hb hby dx_method_3_code_20) _ ?_
    refine XS.iloadN X0.here hx rfl (hb hby dx_method_3_code_21) rfl ?_
    refine XS.i2b X0.here hx rfl (hb hby dx_method_3_code_22) rfl ?_
    refine XS.icmpYes X0.here hx rfl (pc0 := 23) (pc' := 28) rfl (hb hby dx_method_3_code_23) rfl (teq (own_b8 _ : ((d.toInt8.toInt32).toInt8.toInt32) = (d.toInt8.toInt32))).1 (by decide) (by decide) ?_
    refine XS.iloadN X0.here hx rfl (hb hby dx_method_3_code_28) rfl ?_
    refine XS.iconst X0.here hx rfl (hb hby dx_method_3_code_29) ?_
    show Steps p.tables e below (s₁.setTop (mkF m 30 #[.val (.ref a1), .val (.int (2 : Int32)), .val (.int d)] [(.int (1 : Int32)), (.int (2 : Int32))])) _
    refine XS.icmpNo X0.here hx rfl (hb hby dx_method_3_code_30) rfl (tlt (by decide : (1 : Int32) < (2 : Int32))).2.2.2 ?_
    refine XS.aloadN X0.here hx rfl (hb hby dx_method_3_code_33) rfl rfl ?_
    refine XS.iconst X0.here hx rfl (hb hby dx_method_3_code_34) ?_
    refine X0.baloadBytes hx (j := (1 : Int32)) (v := (.int ((((d.toUInt32 >>> ((8 : Int32) &&& 31).toUInt32).toInt32).toInt8.toInt32).toInt8.toInt32))) (own_cell e0 Arq134.1) (State.isArrayOf_alike hZ.alike Arq134.2.1) Arq134.2.2 hinq134 hatq134 (g := (mkF m 35 #[.val (.ref a1), .val (.int (2 : Int32)), .val (.int d)] [(.int (1 : Int32)), (.ref a1)])) rfl rfl (hb hby dx_method_3_code_35) _ ?_
    refine XS.iloadN X0.here hx rfl (hb hby dx_method_3_code_36) rfl ?_
    refine XS.bipush X0.here hx rfl (hb hby dx_method_3_code_37) ?_
    refine XS.iushr X0.here hx rfl (hb hby dx_method_3_code_39) rfl ?_
    refine XS.i2b X0.here hx rfl (hb hby dx_method_3_code_40) rfl ?_
    show Steps p.tables e below (s₁.setTop (mkF m 41 #[.val (.ref a1), .val (.int (2 : Int32)), .val (.int d)] [(.int (((d.toUInt32 >>> ((8 : Int32) &&& 31).toUInt32).toInt32).toInt8.toInt32)), (.int ((((d.toUInt32 >>> ((8 : Int32) &&& 31).toUInt32).toInt32).toInt8.toInt32).toInt8.toInt32))])) _
    refine XS.icmpYes X0.here hx rfl (pc0 := 41) (pc' := 46) rfl (hb hby dx_method_3_code_41) rfl (teq (own_b8 _ : ((((d.toUInt32 >>> ((8 : Int32) &&& 31).toUInt32).toInt32).toInt8.toInt32).toInt8.toInt32) = (((d.toUInt32 >>> ((8 : Int32) &&& 31).toUInt32).toInt32).toInt8.toInt32))).1 (by decide) (by decide) ?_
    refine XS.iloadN X0.here hx rfl (hb hby dx_method_3_code_46) rfl ?_
    refine XS.iconst X0.here hx rfl (hb hby dx_method_3_code_47) ?_
    refine XS.icmpYes X0.here hx rfl (pc0 := 48) (pc' := 64) rfl (hb hby dx_method_3_code_48) rfl (flt (by decide : ¬ ((2 : Int32) < (2 : Int32)))).2.2.2 (by decide) (by decide) ?_
    refine XS.iloadN X0.here hx rfl (hb hby dx_method_3_code_64) rfl ?_
    refine XS.iconst X0.here hx rfl (hb hby dx_method_3_code_65) ?_
    refine XS.icmpYes X0.here hx rfl (pc0 := 66) (pc' := 82) rfl (hb hby dx_method_3_code_66) rfl (flt (by decide : ¬ ((3 : Int32) < (2 : Int32)))).2.2.2 (by decide) (by decide) ?_
    refine XS.iconst X0.here hx rfl (hb hby dx_method_3_code_82) ?_
    show Steps p.tables e below (s₁.setTop (mkF m 83 #[.val (.ref a1), .val (.int (2 : Int32)), .val (.int d)] [(.int (1 : Int32))])) _
    exact retN X0 hx (t := .boolean) Bd.returns (by simp) (hb hby dx_method_3_code_83) hr
  · show Qsame2 Z G1 a1 d kb h0 n0 _ s₁.heap _
    rw [e0]
    exact ⟨rfl, N0, rfl⟩
theorem dx_method_3_code_51 : decode method_3_code 51 = .ok (.aload_n 0, 1) := by decide +kernel
theorem dx_method_3_code_52 : decode method_3_code 52 = .ok (.iconst 2, 1) := by decide +kernel
theorem dx_method_3_code_53 : decode method_3_code 53 = .ok (.baload, 1) := by decide +kernel
theorem dx_method_3_code_54 : decode method_3_code 54 = .ok (.iload_n 2, 1) := by decide +kernel
theorem dx_method_3_code_55 : decode method_3_code 55 = .ok (.bipush 16, 2) := by decide +kernel
theorem dx_method_3_code_57 : decode method_3_code 57 = .ok (.iushr, 1) := by decide +kernel
theorem dx_method_3_code_58 : decode method_3_code 58 = .ok (.i2b, 1) := by decide +kernel
theorem dx_method_3_code_59 : decode method_3_code 59 = .ok (.if_icmp .eq 5, 3) := by decide +kernel
def Qsame3 (Z : State) (G1 : Int32) (a1 : Addr) (d : Int32) (kb : ClassId) (h0 : Heap) (n0 : Nat) (v : Option Value) (h : Heap) (L : List Loc) : Prop := v = some (.int (1 : Int32)) ∧ Fr n0 L ∧ h = h0
set_option maxRecDepth 65536 in
set_option maxHeartbeats 40000000 in
theorem rmsame3 (l : Launch) (Z : State) (a0 : Array Value) (G1 : Int32) (hG : Glob Z a0 G1) (ws : List Jvm.Cond) (a1 : Addr) (d : Int32) (kb : ClassId) (h0 : Heap) (n0 : Nat) (Z0 : n0 ≤ h0.size) (X00 : Old Z n0 h0) (V_a1 : Arv Z h0 a1 kb .byte (3 : Int32) [(.int ((d.toInt8.toInt32).toInt8.toInt32)), (.int ((((d.toUInt32 >>> ((8 : Int32) &&& 31).toUInt32).toInt32).toInt8.toInt32).toInt8.toInt32)), (.int ((((d.toUInt32 >>> ((16 : Int32) &&& 31).toUInt32).toInt32).toInt8.toInt32).toInt8.toInt32))] (.int (0 : Int32))) :
    MetFree l y12 (head1 (Jvm.Cond.code y12 method_3_code 3 (some .boolean) :: ws) ({ frames := 0, cells := 0, slots := 0, locals := 0 } : Room)) (fun a U => a = #[(.ref a1), (.int (3 : Int32)), (.int d)] ∧ Z.Warmed39 U.vm ∧ U.heap = h0) (fun _ _ _ _ _ => True) (fun _ U o U' => ∃ v L, o = .returned v ∧ Qsame3 Z G1 a1 d kb h0 n0 v U'.heap L ∧ FrameEnd U o U' L ({ frames := 0, cells := 0, slots := 0, locals := 0 } : Room).cells ({ frames := 0, cells := 0, slots := 0, locals := 0 } : Room).slots) := by
  obtain ⟨hw, O_cs, P_cs⟩ := id hG
  have W : ∀ (i : Nat) {d : Jvm.Cond}, tables_1[i]? = some d → d.before a0 Z = true := fun i d h => hw d (List.mem_of_getElem? h)
  refine MetFree.of_bodySF (plainFor_of_name pn_com_example_larkbridge_larkbridge_mcp_McpResourceContentsBinaryPinLaw) hisR ?_
  intro p e s m args below meth c s₁ Bd hml0 hP hK
  obtain ⟨rfl, hZ, hh⟩ := hP
  have hx := Bd.exec
  have hby := Bd.bytes
  have hml : c.maxLocals = 3 := hml0
  have hown : s.vm.findClass "com/example/larkbridge/larkbridge/mcp/McpResourceContentsBinaryPinLaw" = some m.cls := findClass_of_methodNamed Bd.named
  have hnm := (name_of_methodNamed Bd.named Bd.method).1
  have X0 : Stand p l e ({ frames := 0, cells := 0, slots := 0, locals := 0 } : Room) s m #[(.ref a1), (.int (3 : Int32)), (.int d)] below meth c s₁ [] 0 0 := Stand.of_body Bd
  have e0 : s₁.heap = h0 := by rw [← hh, Bd.state]; rfl
  have N0 := Fr.nil n0
  have pre0 : ∀ t, Steps p.tables e below (s₁.setTop (mkF m 0 #[.val (.ref a1), .val (.int (3 : Int32)), .val (.int d)] [])) t → Steps p.tables e below (s₁.setTop (entryFrame m #[(.ref a1), (.int (3 : Int32)), (.int d)] 3)) t := fun t kk_ => castTop (ef_method_3_code_RII m a1 (3 : Int32) d) kk_
  obtain ⟨clq135, Arq135, qaq135, Sq135, Nq135, Hq135, Gq135⟩ := id V_a1
  obtain ⟨clq136, Arq136, qaq136, Sq136, Nq136, Hq136, Gq136⟩ := id V_a1
  have hinq136 : ¬ ((0 : Int32) < 0 ∨ clq136.slots.size ≤ ((0 : Int32)).toNatClampNeg) := inb_of Sq136 ⟨by decide, by decide⟩
  have hatq136 : clq136.slots[((0 : Int32)).toNatClampNeg]? = some (.int ((d.toInt8.toInt32).toInt8.toInt32)) := Has.at Hq136 hinq136 rfl
  obtain ⟨clq137, Arq137, qaq137, Sq137, Nq137, Hq137, Gq137⟩ := id V_a1
  have hinq137 : ¬ ((1 : Int32) < 0 ∨ clq137.slots.size ≤ ((1 : Int32)).toNatClampNeg) := inb_of Sq137 ⟨by decide, by decide⟩
  have hatq137 : clq137.slots[((1 : Int32)).toNatClampNeg]? = some (.int ((((d.toUInt32 >>> ((8 : Int32) &&& 31).toUInt32).toInt32).toInt8.toInt32).toInt8.toInt32)) := Has.at Hq137 hinq137 rfl
  obtain ⟨clq138, Arq138, qaq138, Sq138, Nq138, Hq138, Gq138⟩ := id V_a1
  have hinq138 : ¬ ((2 : Int32) < 0 ∨ clq138.slots.size ≤ ((2 : Int32)).toNatClampNeg) := inb_of Sq138 ⟨by decide, by decide⟩
  have hatq138 : clq138.slots[((2 : Int32)).toNatClampNeg]? = some (.int ((((d.toUInt32 >>> ((16 : Int32) &&& 31).toUInt32).toInt32).toInt8.toInt32).toInt8.toInt32)) := Has.at Hq138 hinq138 rfl
  obtain ⟨fs, hr, hrun, hended, hW, hsame⟩ := X0.leave (v := some (.int (1 : Int32))) (fun h => by rw [Bd.returns] at h; cases h)
  refine ⟨_, _, pre0 _ ?_, hrun, hended, _, _, rfl, ?_, ⟨_, rfl⟩, hW, hsame.mono (Nat.le_of_ble_eq_true rfl) (Nat.le_of_ble_eq_true rfl)⟩
  · show Steps p.tables e below (s₁.setTop (mkF m 0 #[.val (.ref a1), .val (.int (3 : Int32)), .val (.int d)] [])) _
    refine XS.aloadN X0.here hx rfl (hb hby dx_method_3_code_0) rfl rfl ?_
    refine XS.ifnonnullYes X0.here hx rfl (pc0 := 1) (pc' := 6) rfl (hb hby dx_method_3_code_1) rfl (by decide) (by decide) ?_
    refine XS.aloadN X0.here hx rfl (hb hby dx_method_3_code_6) rfl rfl ?_
    refine X0.arraylength hx (own_cell e0 Arq135.1) (State.isArrayOf_alike hZ.alike Arq135.2.1) (g := (mkF m 7 #[.val (.ref a1), .val (.int (3 : Int32)), .val (.int d)] [(.ref a1)])) rfl rfl (hb hby dx_method_3_code_7) _ ?_
    rw [len_of Sq135 Nq135]
    refine XS.iloadN X0.here hx rfl (hb hby dx_method_3_code_8) rfl ?_
    refine XS.icmpYes X0.here hx rfl (pc0 := 9) (pc' := 14) rfl (hb hby dx_method_3_code_9) rfl (teq (by decide : (3 : Int32) = (3 : Int32))).1 (by decide) (by decide) ?_
    refine XS.iloadN X0.here hx rfl (hb hby dx_method_3_code_14) rfl ?_
    refine XS.ifNo X0.here hx rfl (hb hby dx_method_3_code_15) rfl ((if0 _ _).trans (tlt (by decide : (0 : Int32) < (3 : Int32))).2.2.2) ?_
    show Steps p.tables e below (s₁.setTop (mkF m 18 #[.val (.ref a1), .val (.int (3 : Int32)), .val (.int d)] [])) _
    refine XS.aloadN X0.here hx rfl (hb hby dx_method_3_code_18) rfl rfl ?_
    refine XS.iconst X0.here hx rfl (hb hby dx_method_3_code_19) ?_
    refine X0.baloadBytes hx (j := (0 : Int32)) (v := (.int ((d.toInt8.toInt32).toInt8.toInt32))) (own_cell e0 Arq136.1) (State.isArrayOf_alike hZ.alike Arq136.2.1) Arq136.2.2 hinq136 hatq136 (g := (mkF m 20 #[.val (.ref a1), .val (.int (3 : Int32)), .val (.int d)] [(.int (0 : Int32)), (.ref a1)])) rfl rfl (hb hby dx_method_3_code_20) _ ?_
    refine XS.iloadN X0.here hx rfl (hb hby dx_method_3_code_21) rfl ?_
    refine XS.i2b X0.here hx rfl (hb hby dx_method_3_code_22) rfl ?_
    refine XS.icmpYes X0.here hx rfl (pc0 := 23) (pc' := 28) rfl (hb hby dx_method_3_code_23) rfl (teq (own_b8 _ : ((d.toInt8.toInt32).toInt8.toInt32) = (d.toInt8.toInt32))).1 (by decide) (by decide) ?_
    refine XS.iloadN X0.here hx rfl (hb hby dx_method_3_code_28) rfl ?_
    refine XS.iconst X0.here hx rfl (hb hby dx_method_3_code_29) ?_
    show Steps p.tables e below (s₁.setTop (mkF m 30 #[.val (.ref a1), .val (.int (3 : Int32)), .val (.int d)] [(.int (1 : Int32)), (.int (3 : Int32))])) _
    refine XS.icmpNo X0.here hx rfl (hb hby dx_method_3_code_30) rfl (tlt (by decide : (1 : Int32) < (3 : Int32))).2.2.2 ?_
    refine XS.aloadN X0.here hx rfl (hb hby dx_method_3_code_33) rfl rfl ?_
    refine XS.iconst X0.here hx rfl (hb hby dx_method_3_code_34) ?_
    refine X0.baloadBytes hx (j := (1 : Int32)) (v := (.int ((((d.toUInt32 >>> ((8 : Int32) &&& 31).toUInt32).toInt32).toInt8.toInt32).toInt8.toInt32))) (own_cell e0 Arq137.1) (State.isArrayOf_alike hZ.alike Arq137.2.1) Arq137.2.2 hinq137 hatq137 (g := (mkF m 35 #[.val (.ref a1), .val (.int (3 : Int32)), .val (.int d)] [(.int (1 : Int32)), (.ref a1)])) rfl rfl (hb hby dx_method_3_code_35) _ ?_
    refine XS.iloadN X0.here hx rfl (hb hby dx_method_3_code_36) rfl ?_
    refine XS.bipush X0.here hx rfl (hb hby dx_method_3_code_37) ?_
    refine XS.iushr X0.here hx rfl (hb hby dx_method_3_code_39) rfl ?_
    refine XS.i2b X0.here hx rfl (hb hby dx_method_3_code_40) rfl ?_
    show Steps p.tables e below (s₁.setTop (mkF m 41 #[.val (.ref a1), .val (.int (3 : Int32)), .val (.int d)] [(.int (((d.toUInt32 >>> ((8 : Int32) &&& 31).toUInt32).toInt32).toInt8.toInt32)), (.int ((((d.toUInt32 >>> ((8 : Int32) &&& 31).toUInt32).toInt32).toInt8.toInt32).toInt8.toInt32))])) _
    refine XS.icmpYes X0.here hx rfl (pc0 := 41) (pc' := 46) rfl (hb hby dx_method_3_code_41) rfl (teq (own_b8 _ : ((((d.toUInt32 >>> ((8 : Int32) &&& 31).toUInt32).toInt32).toInt8.toInt32).toInt8.toInt32) = (((d.toUInt32 >>> ((8 : Int32) &&& 31).toUInt32).toInt32).toInt8.toInt32))).1 (by decide) (by decide) ?_
    refine XS.iloadN X0.here hx rfl (hb hby dx_method_3_code_46) rfl ?_
    refine XS.iconst X0.here hx rfl (hb hby dx_method_3_code_47) ?_
    refine XS.icmpNo X0.here hx rfl (hb hby dx_method_3_code_48) rfl (tlt (by decide : (2 : Int32) < (3 : Int32))).2.2.2 ?_
    refine XS.aloadN X0.here hx rfl (hb hby dx_method_3_code_51) rfl rfl ?_
    refine XS.iconst X0.here hx rfl (hb hby dx_method_3_code_52) ?_
    refine X0.baloadBytes hx (j := (2 : Int32)) (v := (.int ((((d.toUInt32 >>> ((16 : Int32) &&& 31).toUInt32).toInt32).toInt8.toInt32).toInt8.toInt32))) (own_cell e0 Arq138.1) (State.isArrayOf_alike hZ.alike Arq138.2.1) Arq138.2.2 hinq138 hatq138 (g := (mkF m 53 #[.val (.ref a1), .val (.int (3 : Int32)), .val (.int d)] [(.int (2 : Int32)), (.ref a1)])) rfl rfl (hb hby dx_method_3_code_53) _ ?_
    refine XS.iloadN X0.here hx rfl (hb hby dx_method_3_code_54) rfl ?_
    show Steps p.tables e below (s₁.setTop (mkF m 55 #[.val (.ref a1), .val (.int (3 : Int32)), .val (.int d)] [(.int d), (.int ((((d.toUInt32 >>> ((16 : Int32) &&& 31).toUInt32).toInt32).toInt8.toInt32).toInt8.toInt32))])) _
    refine XS.bipush X0.here hx rfl (hb hby dx_method_3_code_55) ?_
    refine XS.iushr X0.here hx rfl (hb hby dx_method_3_code_57) rfl ?_
    refine XS.i2b X0.here hx rfl (hb hby dx_method_3_code_58) rfl ?_
    refine XS.icmpYes X0.here hx rfl (pc0 := 59) (pc' := 64) rfl (hb hby dx_method_3_code_59) rfl (teq (own_b8 _ : ((((d.toUInt32 >>> ((16 : Int32) &&& 31).toUInt32).toInt32).toInt8.toInt32).toInt8.toInt32) = (((d.toUInt32 >>> ((16 : Int32) &&& 31).toUInt32).toInt32).toInt8.toInt32))).1 (by decide) (by decide) ?_
    refine XS.iloadN X0.here hx rfl (hb hby dx_method_3_code_64) rfl ?_
    refine XS.iconst X0.here hx rfl (hb hby dx_method_3_code_65) ?_
    refine XS.icmpYes X0.here hx rfl (pc0 := 66) (pc' := 82) rfl (hb hby dx_method_3_code_66) rfl (flt (by decide : ¬ ((3 : Int32) < (3 : Int32)))).2.2.2 (by decide) (by decide) ?_
    refine XS.iconst X0.here hx rfl (hb hby dx_method_3_code_82) ?_
    show Steps p.tables e below (s₁.setTop (mkF m 83 #[.val (.ref a1), .val (.int (3 : Int32)), .val (.int d)] [(.int (1 : Int32))])) _
    exact retN X0 hx (t := .boolean) Bd.returns (by simp) (hb hby dx_method_3_code_83) hr
  · show Qsame3 Z G1 a1 d kb h0 n0 _ s₁.heap _
    rw [e0]
    exact ⟨rfl, N0, rfl⟩
theorem dx_method_3_code_69 : decode method_3_code 69 = .ok (.aload_n 0, 1) := by decide +kernel
theorem dx_method_3_code_70 : decode method_3_code 70 = .ok (.iconst 3, 1) := by decide +kernel
theorem dx_method_3_code_71 : decode method_3_code 71 = .ok (.baload, 1) := by decide +kernel
theorem dx_method_3_code_72 : decode method_3_code 72 = .ok (.iload_n 2, 1) := by decide +kernel
theorem dx_method_3_code_73 : decode method_3_code 73 = .ok (.bipush 24, 2) := by decide +kernel
theorem dx_method_3_code_75 : decode method_3_code 75 = .ok (.iushr, 1) := by decide +kernel
theorem dx_method_3_code_76 : decode method_3_code 76 = .ok (.i2b, 1) := by decide +kernel
theorem dx_method_3_code_77 : decode method_3_code 77 = .ok (.if_icmp .eq 5, 3) := by decide +kernel
def Qsame4 (Z : State) (G1 : Int32) (a1 : Addr) (d : Int32) (kb : ClassId) (h0 : Heap) (n0 : Nat) (v : Option Value) (h : Heap) (L : List Loc) : Prop := v = some (.int (1 : Int32)) ∧ Fr n0 L ∧ h = h0
set_option maxRecDepth 65536 in
set_option maxHeartbeats 40000000 in
theorem rmsame4 (l : Launch) (Z : State) (a0 : Array Value) (G1 : Int32) (hG : Glob Z a0 G1) (ws : List Jvm.Cond) (a1 : Addr) (d : Int32) (kb : ClassId) (h0 : Heap) (n0 : Nat) (Z0 : n0 ≤ h0.size) (X00 : Old Z n0 h0) (V_a1 : Arv Z h0 a1 kb .byte (4 : Int32) [(.int ((d.toInt8.toInt32).toInt8.toInt32)), (.int ((((d.toUInt32 >>> ((8 : Int32) &&& 31).toUInt32).toInt32).toInt8.toInt32).toInt8.toInt32)), (.int ((((d.toUInt32 >>> ((16 : Int32) &&& 31).toUInt32).toInt32).toInt8.toInt32).toInt8.toInt32)), (.int ((((d.toUInt32 >>> ((24 : Int32) &&& 31).toUInt32).toInt32).toInt8.toInt32).toInt8.toInt32))] (.int (0 : Int32))) :
    MetFree l y12 (head1 (Jvm.Cond.code y12 method_3_code 3 (some .boolean) :: ws) ({ frames := 0, cells := 0, slots := 0, locals := 0 } : Room)) (fun a U => a = #[(.ref a1), (.int (4 : Int32)), (.int d)] ∧ Z.Warmed39 U.vm ∧ U.heap = h0) (fun _ _ _ _ _ => True) (fun _ U o U' => ∃ v L, o = .returned v ∧ Qsame4 Z G1 a1 d kb h0 n0 v U'.heap L ∧ FrameEnd U o U' L ({ frames := 0, cells := 0, slots := 0, locals := 0 } : Room).cells ({ frames := 0, cells := 0, slots := 0, locals := 0 } : Room).slots) := by
  obtain ⟨hw, O_cs, P_cs⟩ := id hG
  have W : ∀ (i : Nat) {d : Jvm.Cond}, tables_1[i]? = some d → d.before a0 Z = true := fun i d h => hw d (List.mem_of_getElem? h)
  refine MetFree.of_bodySF (plainFor_of_name pn_com_example_larkbridge_larkbridge_mcp_McpResourceContentsBinaryPinLaw) hisR ?_
  intro p e s m args below meth c s₁ Bd hml0 hP hK
  obtain ⟨rfl, hZ, hh⟩ := hP
  have hx := Bd.exec
  have hby := Bd.bytes
  have hml : c.maxLocals = 3 := hml0
  have hown : s.vm.findClass "com/example/larkbridge/larkbridge/mcp/McpResourceContentsBinaryPinLaw" = some m.cls := findClass_of_methodNamed Bd.named
  have hnm := (name_of_methodNamed Bd.named Bd.method).1
  have X0 : Stand p l e ({ frames := 0, cells := 0, slots := 0, locals := 0 } : Room) s m #[(.ref a1), (.int (4 : Int32)), (.int d)] below meth c s₁ [] 0 0 := Stand.of_body Bd
  have e0 : s₁.heap = h0 := by rw [← hh, Bd.state]; rfl
  have N0 := Fr.nil n0
  have pre0 : ∀ t, Steps p.tables e below (s₁.setTop (mkF m 0 #[.val (.ref a1), .val (.int (4 : Int32)), .val (.int d)] [])) t → Steps p.tables e below (s₁.setTop (entryFrame m #[(.ref a1), (.int (4 : Int32)), (.int d)] 3)) t := fun t kk_ => castTop (ef_method_3_code_RII m a1 (4 : Int32) d) kk_
  obtain ⟨clq139, Arq139, qaq139, Sq139, Nq139, Hq139, Gq139⟩ := id V_a1
  obtain ⟨clq140, Arq140, qaq140, Sq140, Nq140, Hq140, Gq140⟩ := id V_a1
  have hinq140 : ¬ ((0 : Int32) < 0 ∨ clq140.slots.size ≤ ((0 : Int32)).toNatClampNeg) := inb_of Sq140 ⟨by decide, by decide⟩
  have hatq140 : clq140.slots[((0 : Int32)).toNatClampNeg]? = some (.int ((d.toInt8.toInt32).toInt8.toInt32)) := Has.at Hq140 hinq140 rfl
  obtain ⟨clq141, Arq141, qaq141, Sq141, Nq141, Hq141, Gq141⟩ := id V_a1
  have hinq141 : ¬ ((1 : Int32) < 0 ∨ clq141.slots.size ≤ ((1 : Int32)).toNatClampNeg) := inb_of Sq141 ⟨by decide, by decide⟩
  have hatq141 : clq141.slots[((1 : Int32)).toNatClampNeg]? = some (.int ((((d.toUInt32 >>> ((8 : Int32) &&& 31).toUInt32).toInt32).toInt8.toInt32).toInt8.toInt32)) := Has.at Hq141 hinq141 rfl
  obtain ⟨clq142, Arq142, qaq142, Sq142, Nq142, Hq142, Gq142⟩ := id V_a1
  have hinq142 : ¬ ((2 : Int32) < 0 ∨ clq142.slots.size ≤ ((2 : Int32)).toNatClampNeg) := inb_of Sq142 ⟨by decide, by decide⟩
  have hatq142 : clq142.slots[((2 : Int32)).toNatClampNeg]? = some (.int ((((d.toUInt32 >>> ((16 : Int32) &&& 31).toUInt32).toInt32).toInt8.toInt32).toInt8.toInt32)) := Has.at Hq142 hinq142 rfl
  obtain ⟨clq143, Arq143, qaq143, Sq143, Nq143, Hq143, Gq143⟩ := id V_a1
  have hinq143 : ¬ ((3 : Int32) < 0 ∨ clq143.slots.size ≤ ((3 : Int32)).toNatClampNeg) := inb_of Sq143 ⟨by decide, by decide⟩
  have hatq143 : clq143.slots[((3 : Int32)).toNatClampNeg]? = some (.int ((((d.toUInt32 >>> ((24 : Int32) &&& 31).toUInt32).toInt32).toInt8.toInt32).toInt8.toInt32)) := Has.at Hq143 hinq143 rfl
  obtain ⟨fs, hr, hrun, hended, hW, hsame⟩ := X0.leave (v := some (.int (1 : Int32))) (fun h => by rw [Bd.returns] at h; cases h)
  refine ⟨_, _, pre0 _ ?_, hrun, hended, _, _, rfl, ?_, ⟨_, rfl⟩, hW, hsame.mono (Nat.le_of_ble_eq_true rfl) (Nat.le_of_ble_eq_true rfl)⟩
  · show Steps p.tables e below (s₁.setTop (mkF m 0 #[.val (.ref a1), .val (.int (4 : Int32)), .val (.int d)] [])) _
    refine XS.aloadN X0.here hx rfl (hb hby dx_method_3_code_0) rfl rfl ?_
    refine XS.ifnonnullYes X0.here hx rfl (pc0 := 1) (pc' := 6) rfl (hb hby dx_method_3_code_1) rfl (by decide) (by decide) ?_
    refine XS.aloadN X0.here hx rfl (hb hby dx_method_3_code_6) rfl rfl ?_
    refine X0.arraylength hx (own_cell e0 Arq139.1) (State.isArrayOf_alike hZ.alike Arq139.2.1) (g := (mkF m 7 #[.val (.ref a1), .val (.int (4 : Int32)), .val (.int d)] [(.ref a1)])) rfl rfl (hb hby dx_method_3_code_7) _ ?_
    rw [len_of Sq139 Nq139]
    refine XS.iloadN X0.here hx rfl (hb hby dx_method_3_code_8) rfl ?_
    refine XS.icmpYes X0.here hx rfl (pc0 := 9) (pc' := 14) rfl (hb hby dx_method_3_code_9) rfl (teq (by decide : (4 : Int32) = (4 : Int32))).1 (by decide) (by decide) ?_
    refine XS.iloadN X0.here hx rfl (hb hby dx_method_3_code_14) rfl ?_
    refine XS.ifNo X0.here hx rfl (hb hby dx_method_3_code_15) rfl ((if0 _ _).trans (tlt (by decide : (0 : Int32) < (4 : Int32))).2.2.2) ?_
    show Steps p.tables e below (s₁.setTop (mkF m 18 #[.val (.ref a1), .val (.int (4 : Int32)), .val (.int d)] [])) _
    refine XS.aloadN X0.here hx rfl (hb hby dx_method_3_code_18) rfl rfl ?_
    refine XS.iconst X0.here hx rfl (hb hby dx_method_3_code_19) ?_
    refine X0.baloadBytes hx (j := (0 : Int32)) (v := (.int ((d.toInt8.toInt32).toInt8.toInt32))) (own_cell e0 Arq140.1) (State.isArrayOf_alike hZ.alike Arq140.2.1) Arq140.2.2 hinq140 hatq140 (g := (mkF m 20 #[.val (.ref a1), .val (.int (4 : Int32)), .val (.int d)] [(.int (0 : Int32)), (.ref a1)])) rfl rfl (hb hby dx_method_3_code_20) _ ?_
    refine XS.iloadN X0.here hx rfl (hb hby dx_method_3_code_21) rfl ?_
    refine XS.i2b X0.here hx rfl (hb hby dx_method_3_code_22) rfl ?_
    refine XS.icmpYes X0.here hx rfl (pc0 := 23) (pc' := 28) rfl (hb hby dx_method_3_code_23) rfl (teq (own_b8 _ : ((d.toInt8.toInt32).toInt8.toInt32) = (d.toInt8.toInt32))).1 (by decide) (by decide) ?_
    refine XS.iloadN X0.here hx rfl (hb hby dx_method_3_code_28) rfl ?_
    refine XS.iconst X0.here hx rfl (hb hby dx_method_3_code_29) ?_
    show Steps p.tables e below (s₁.setTop (mkF m 30 #[.val (.ref a1), .val (.int (4 : Int32)), .val (.int d)] [(.int (1 : Int32)), (.int (4 : Int32))])) _
    refine XS.icmpNo X0.here hx rfl (hb hby dx_method_3_code_30) rfl (tlt (by decide : (1 : Int32) < (4 : Int32))).2.2.2 ?_
    refine XS.aloadN X0.here hx rfl (hb hby dx_method_3_code_33) rfl rfl ?_
    refine XS.iconst X0.here hx rfl (hb hby dx_method_3_code_34) ?_
    refine X0.baloadBytes hx (j := (1 : Int32)) (v := (.int ((((d.toUInt32 >>> ((8 : Int32) &&& 31).toUInt32).toInt32).toInt8.toInt32).toInt8.toInt32))) (own_cell e0 Arq141.1) (State.isArrayOf_alike hZ.alike Arq141.2.1) Arq141.2.2 hinq141 hatq141 (g := (mkF m 35 #[.val (.ref a1), .val (.int (4 : Int32)), .val (.int d)] [(.int (1 : Int32)), (.ref a1)])) rfl rfl (hb hby dx_method_3_code_35) _ ?_
    refine XS.iloadN X0.here hx rfl (hb hby dx_method_3_code_36) rfl ?_
    refine XS.bipush X0.here hx rfl (hb hby dx_method_3_code_37) ?_
    refine XS.iushr X0.here hx rfl (hb hby dx_method_3_code_39) rfl ?_
    refine XS.i2b X0.here hx rfl (hb hby dx_method_3_code_40) rfl ?_
    show Steps p.tables e below (s₁.setTop (mkF m 41 #[.val (.ref a1), .val (.int (4 : Int32)), .val (.int d)] [(.int (((d.toUInt32 >>> ((8 : Int32) &&& 31).toUInt32).toInt32).toInt8.toInt32)), (.int ((((d.toUInt32 >>> ((8 : Int32) &&& 31).toUInt32).toInt32).toInt8.toInt32).toInt8.toInt32))])) _
    refine XS.icmpYes X0.here hx rfl (pc0 := 41) (pc' := 46) rfl (hb hby dx_method_3_code_41) rfl (teq (own_b8 _ : ((((d.toUInt32 >>> ((8 : Int32) &&& 31).toUInt32).toInt32).toInt8.toInt32).toInt8.toInt32) = (((d.toUInt32 >>> ((8 : Int32) &&& 31).toUInt32).toInt32).toInt8.toInt32))).1 (by decide) (by decide) ?_
    refine XS.iloadN X0.here hx rfl (hb hby dx_method_3_code_46) rfl ?_
    refine XS.iconst X0.here hx rfl (hb hby dx_method_3_code_47) ?_
    refine XS.icmpNo X0.here hx rfl (hb hby dx_method_3_code_48) rfl (tlt (by decide : (2 : Int32) < (4 : Int32))).2.2.2 ?_
    refine XS.aloadN X0.here hx rfl (hb hby dx_method_3_code_51) rfl rfl ?_
    refine XS.iconst X0.here hx rfl (hb hby dx_method_3_code_52) ?_
    refine X0.baloadBytes hx (j := (2 : Int32)) (v := (.int ((((d.toUInt32 >>> ((16 : Int32) &&& 31).toUInt32).toInt32).toInt8.toInt32).toInt8.toInt32))) (own_cell e0 Arq142.1) (State.isArrayOf_alike hZ.alike Arq142.2.1) Arq142.2.2 hinq142 hatq142 (g := (mkF m 53 #[.val (.ref a1), .val (.int (4 : Int32)), .val (.int d)] [(.int (2 : Int32)), (.ref a1)])) rfl rfl (hb hby dx_method_3_code_53) _ ?_
    refine XS.iloadN X0.here hx rfl (hb hby dx_method_3_code_54) rfl ?_
    show Steps p.tables e below (s₁.setTop (mkF m 55 #[.val (.ref a1), .val (.int (4 : Int32)), .val (.int d)] [(.int d), (.int ((((d.toUInt32 >>> ((16 : Int32) &&& 31).toUInt32).toInt32).toInt8.toInt32).toInt8.toInt32))])) _
    refine XS.bipush X0.here hx rfl (hb hby dx_method_3_code_55) ?_
    refine XS.iushr X0.here hx rfl (hb hby dx_method_3_code_57) rfl ?_
    refine XS.i2b X0.here hx rfl (hb hby dx_method_3_code_58) rfl ?_
    refine XS.icmpYes X0.here hx rfl (pc0 := 59) (pc' := 64) rfl (hb hby dx_method_3_code_59) rfl (teq (own_b8 _ : ((((d.toUInt32 >>> ((16 : Int32) &&& 31).toUInt32).toInt32).toInt8.toInt32).toInt8.toInt32) = (((d.toUInt32 >>> ((16 : Int32) &&& 31).toUInt32).toInt32).toInt8.toInt32))).1 (by decide) (by decide) ?_
    refine XS.iloadN X0.here hx rfl (hb hby dx_method_3_code_64) rfl ?_
    refine XS.iconst X0.here hx rfl (hb hby dx_method_3_code_65) ?_
    refine XS.icmpNo X0.here hx rfl (hb hby dx_method_3_code_66) rfl (tlt (by decide : (3 : Int32) < (4 : Int32))).2.2.2 ?_
    refine XS.aloadN X0.here hx rfl (hb hby dx_method_3_code_69) rfl rfl ?_
    show Steps p.tables e below (s₁.setTop (mkF m 70 #[.val (.ref a1), .val (.int (4 : Int32)), .val (.int d)] [(.ref a1)])) _
    refine XS.iconst X0.here hx rfl (hb hby dx_method_3_code_70) ?_
    refine X0.baloadBytes hx (j := (3 : Int32)) (v := (.int ((((d.toUInt32 >>> ((24 : Int32) &&& 31).toUInt32).toInt32).toInt8.toInt32).toInt8.toInt32))) (own_cell e0 Arq143.1) (State.isArrayOf_alike hZ.alike Arq143.2.1) Arq143.2.2 hinq143 hatq143 (g := (mkF m 71 #[.val (.ref a1), .val (.int (4 : Int32)), .val (.int d)] [(.int (3 : Int32)), (.ref a1)])) rfl rfl (hb hby dx_method_3_code_71) _ ?_
    refine XS.iloadN X0.here hx rfl (hb hby dx_method_3_code_72) rfl ?_
    refine XS.bipush X0.here hx rfl (hb hby dx_method_3_code_73) ?_
    refine XS.iushr X0.here hx rfl (hb hby dx_method_3_code_75) rfl ?_
    refine XS.i2b X0.here hx rfl (hb hby dx_method_3_code_76) rfl ?_
    refine XS.icmpYes X0.here hx rfl (pc0 := 77) (pc' := 82) rfl (hb hby dx_method_3_code_77) rfl (teq (own_b8 _ : ((((d.toUInt32 >>> ((24 : Int32) &&& 31).toUInt32).toInt32).toInt8.toInt32).toInt8.toInt32) = (((d.toUInt32 >>> ((24 : Int32) &&& 31).toUInt32).toInt32).toInt8.toInt32))).1 (by decide) (by decide) ?_
    refine XS.iconst X0.here hx rfl (hb hby dx_method_3_code_82) ?_
    show Steps p.tables e below (s₁.setTop (mkF m 83 #[.val (.ref a1), .val (.int (4 : Int32)), .val (.int d)] [(.int (1 : Int32))])) _
    exact retN X0 hx (t := .boolean) Bd.returns (by simp) (hb hby dx_method_3_code_83) hr
  · show Qsame4 Z G1 a1 d kb h0 n0 _ s₁.heap _
    rw [e0]
    exact ⟨rfl, N0, rfl⟩
theorem pd__II_Ljava_lang_String_ : parseMethodDescriptor "(II)Ljava/lang/String;" = some ⟨[.int, .int], some (.object "java/lang/String")⟩ := by decide +kernel
theorem pd__Ljava_lang_String_Ljava_lang_String__B_Lcom_example_larkbridge_larkbridge_mcp_McpResourceContents_ : parseMethodDescriptor "(Ljava/lang/String;Ljava/lang/String;[B)Lcom/example/larkbridge/larkbridge/mcp/McpResourceContents;" = some ⟨[(.object "java/lang/String"), (.object "java/lang/String"), (.array .byte)], some (.object "com/example/larkbridge/larkbridge/mcp/McpResourceContents")⟩ := by decide +kernel
theorem pd____B : parseMethodDescriptor "()[B" = some ⟨[], some (.array .byte)⟩ := by decide +kernel
theorem pd___BII_Z : parseMethodDescriptor "([BII)Z" = some ⟨[(.array .byte), .int, .int], some .boolean⟩ := by decide +kernel
theorem pd___Ljava_lang_String_ : parseMethodDescriptor "()Ljava/lang/String;" = some ⟨[], some (.object "java/lang/String")⟩ := by decide +kernel
theorem pd__Ljava_lang_Object__Z : parseMethodDescriptor "(Ljava/lang/Object;)Z" = some ⟨[(.object "java/lang/Object")], some .boolean⟩ := by decide +kernel
theorem pd___Z : parseMethodDescriptor "()Z" = some ⟨[], some .boolean⟩ := by decide +kernel
def Q0 (Z : State) (G1 : Int32) (p0 : Int32) (p1 : Int32) (p2 : Int32) (p3 : Int32) (h0 : Heap) (n0 : Nat) (v : Option Value) (h : Heap) (L : List Loc) : Prop := v = some (.int (1 : Int32)) ∧ Fr n0 L ∧ Keep h0 h []
theorem ef_code_IIII (m : MethodId) (x0 : Int32) (x1 : Int32) (x2 : Int32) (x3 : Int32) : entryFrame m #[(.int x0), (.int x1), (.int x2), (.int x3)] maxLocals = mkF m 0 #[.val (.int x0), .val (.int x1), .val (.int x2), .val (.int x3), .unset, .unset, .unset, .unset, .unset, .unset, .unset, .unset, .unset, .unset, .unset, .unset, .unset, .unset, .unset, .unset] [] := by first | (simp [entryFrame, mkF, argsToLocals, Value.category, maxLocals]; done) | rfl
set_option maxRecDepth 65536 in
set_option maxHeartbeats 40000000 in
theorem rm0_0t (l : Launch) (Z : State) (a0 : Array Value) (G1 : Int32) (hG : Glob Z a0 G1) (ws : List Jvm.Cond) (p0 : Int32) (p1 : Int32) (p2 : Int32) (p3 : Int32) (h0 : Heap) (n0 : Nat) (Z0 : n0 ≤ h0.size) (X00 : Old Z n0 h0) (hn : ((((p3.toUInt32 >>> ((5 : Int32) &&& 31).toUInt32).toInt32) &&& (7 : Int32)) % (5 : Int32)) = (0 : Int32)) (hm : ¬ ((((p3.toUInt32 >>> ((2 : Int32) &&& 31).toUInt32).toInt32) &&& (7 : Int32)) = (0 : Int32))) :
    MetFree l x (head1 (Jvm.Cond.code x code maxLocals ret :: ws) room_1) (fun a U => a = #[(.int p0), (.int p1), (.int p2), (.int p3)] ∧ Z.Warmed39 U.vm ∧ U.heap = h0 ∧ CHv Z own_EL U.vm h0) (fun _ _ _ _ _ => True) (fun _ U o U' => ∃ v L, o = .returned v ∧ Q0 Z G1 p0 p1 p2 p3 h0 n0 v U'.heap L ∧ CHr Z own_EL U.vm U.heap U'.vm U'.heap ∧ ReturnedEndW U o U' L room_1.cells room_1.slots) := by
  obtain ⟨hw, O_cs, P_cs⟩ := id hG
  have W : ∀ (i : Nat) {d : Jvm.Cond}, tables_1[i]? = some d → d.before a0 Z = true := fun i d h => hw d (List.mem_of_getElem? h)
  refine MetFree.of_bodySF (plainFor_of_name pn_com_example_larkbridge_larkbridge_mcp_McpResourceContentsBinaryPinLaw) hisR ?_
  intro p e s m args below meth c s₁ Bd hml0 hP hK
  obtain ⟨rfl, hZ, hh, hCH⟩ := hP
  have hx := Bd.exec
  have hby := Bd.bytes
  have hml : c.maxLocals = 20 := hml0
  have hown : s.vm.findClass "com/example/larkbridge/larkbridge/mcp/McpResourceContentsBinaryPinLaw" = some m.cls := findClass_of_methodNamed Bd.named
  have hnm := (name_of_methodNamed Bd.named Bd.method).1
  have X0 : Stand p l e room_1 (s.setVm s.vm) m #[(.int p0), (.int p1), (.int p2), (.int p3)] below meth c s₁ [] 0 0 := Stand.of_body Bd
  have e0 : s₁.heap = h0 := by rw [← hh, Bd.state]; rfl
  have hS0 : s.Since s.vm h0.size := (State.WarmedH.refl s).since _
  have hk0 : h0.size ≤ h0.size := Nat.le_refl _
  have R0 : CHr Z own_EL s.vm h0 s.vm h0 := CHr.refl hCH
  have hEL := own_ew hw
  have N0 := Fr.nil n0
  have pre0 : ∀ t, Steps p.tables e below (s₁.setTop (mkF m 0 #[.val (.int p0), .val (.int p1), .val (.int p2), .val (.int p3), .unset, .unset, .unset, .unset, .unset, .unset, .unset, .unset, .unset, .unset, .unset, .unset, .unset, .unset, .unset, .unset] [])) t → Steps p.tables e below (s₁.setTop (entryFrame m #[(.int p0), (.int p1), (.int p2), (.int p3)] maxLocals)) t := fun t kk_ => castTop (ef_code_IIII m p0 p1 p2 p3) kk_
  -- pc 4: com/example/larkbridge/larkbridge/mcp/McpResourceContentsBinaryPinLaw.str
  obtain ⟨_, _, ⟨T144, L144, k144, n144⟩, -, X144, hS144, hG144, ⟨Lc144, hQ144, l144, y144, z144, hC144⟩, st144⟩ := callSS X0 hx (y := y3) hown (mvT hZ (W 0 rfl)) (mvT hZ (W 1 rfl)) (mvT hZ (W 2 rfl)) (mvT hZ (W 3 rfl)) (by decide) (backOfSH (s := s) (W := 0) (rmstr l Z a0 G1 hG [] p0 (p3 &&& (3 : Int32)) h0 n0 Z0 X00) hZ (W 3 rfl) (W 2 rfl) (by decide) (by decide) hEL R0.1) (g := (mkF m 4 #[.val (.int p0), .val (.int p1), .val (.int p2), .val (.int p3), .unset, .unset, .unset, .unset, .unset, .unset, .unset, .unset, .unset, .unset, .unset, .unset, .unset, .unset, .unset, .unset] [(.int (p3 &&& (3 : Int32))), (.int p0)])) rfl (by rw [hml]; rfl) (argsL := [(.int p0), (.int (p3 &&& (3 : Int32)))]) (rest := []) (lenOf pd__II_Ljava_lang_String_ rfl) rfl (by show 2 * 0 + _ ≤ _; exact Nat.le_of_eq rfl) (hb hby at_4) (fun _ _ => ⟨rfl, e0, (by decide : 0 + 6 ≤ _), (by decide : 0 + 12 ≤ _)⟩)
  dsimp only [Pt.U, Pt.locs, Pt.cells, Pt.slots] at X144 l144 y144 z144 st144 hQ144 hS144 hG144 hC144
  subst l144 y144 z144
  have hZ144 : Z.Warmed39 T144.vm := State.Warmed39.trans (t := s.setVm s.vm) hZ hS144.1
  have hw144 : T144.vm.findClass "com/example/larkbridge/larkbridge/mcp/McpResourceContentsBinaryPinLaw" = some m.cls := by rw [hS144.1.alike.findClass]; exact hown
  have hSn144 : s.Since T144.vm T144.heap.size := hS0.trans hS144 (Nat.le_trans hk0 (by have q := hG144; rw [e0] at q; exact q))
  have X144 : Stand p l e _ (s.setVm T144.vm) m _ below meth c T144 _ _ _ := X144
  obtain ⟨b_144, rfl, N144q, K144, f144_0, f144_1⟩ := hQ144
  have N144 := Fr.app N0 N144q
  have Z145 : n0 ≤ T144.heap.size := Nat.le_trans Z0 K144.1
  have K0_145 : Keep h0 T144.heap [] := (Keep.refl h0 []).trans K144 all0
  have O145 : Old Z n0 T144.heap := X00.keep K144 all0
  have hkw144 : T144.heap.size ≤ T144.heap.size := Nat.le_refl _
  have Rb144 : CHr Z own_EL s.vm h0 T144.vm T144.heap := R0.trans hC144
  have lo_b_144 : h0.size ≤ b_144 := f144_0
  have g_b_144 : n0 ≤ b_144 := Nat.le_trans Z0 lo_b_144
  have l0_b_144 : h0.size ≤ b_144 := Nat.le_trans (Keep.refl h0 []).1 lo_b_144
  obtain ⟨vm_, hvm⟩ : ∃ z : Int32, z = (((p3.toUInt32 >>> ((2 : Int32) &&& 31).toUInt32).toInt32) &&& (7 : Int32)) := ⟨_, rfl⟩
  -- pc 31: com/example/larkbridge/larkbridge/mcp/McpResourceContentsBinaryPinLaw.str
  obtain ⟨_, _, ⟨T146, L146, k146, n146⟩, -, X146, hS146, hG146, ⟨Lc146, hQ146, l146, y146, z146, hC146⟩, st146⟩ := callSS X144 hx (y := y3) hw144 (mvT hZ144 (W 0 rfl)) (mvT hZ144 (W 1 rfl)) (mvT hZ144 (W 2 rfl)) (mvT hZ144 (W 3 rfl)) (by decide) (backOfSH (s := s) (W := 0) (rmstr l Z a0 G1 hG [] p1 (vm_ &&& (3 : Int32)) T144.heap n0 Z145 O145) hZ144 (W 3 rfl) (W 2 rfl) (by decide) (by decide) hEL Rb144.1) (g := (mkF m 31 #[.val (.int p0), .val (.int p1), .val (.int p2), .val (.int p3), .val (.ref b_144), .val (.int vm_), .unset, .unset, .unset, .unset, .unset, .unset, .unset, .unset, .unset, .unset, .unset, .unset, .unset, .unset] [(.int (vm_ &&& (3 : Int32))), (.int p1)])) rfl (by rw [hml]; rfl) (argsL := [(.int p1), (.int (vm_ &&& (3 : Int32)))]) (rest := []) (lenOf pd__II_Ljava_lang_String_ rfl) rfl (by show 2 * 0 + _ ≤ _; exact Nat.le_of_eq rfl) (hb hby at_31) (fun _ _ => ⟨rfl, rfl, (by decide : 6 + 6 ≤ _), (by decide : 12 + 12 ≤ _)⟩)
  dsimp only [Pt.U, Pt.locs, Pt.cells, Pt.slots] at X146 l146 y146 z146 st146 hQ146 hS146 hG146 hC146
  subst l146 y146 z146
  have hZ146 : Z.Warmed39 T146.vm := State.Warmed39.trans (t := s.setVm T144.vm) hZ144 hS146.1
  have hw146 : T146.vm.findClass "com/example/larkbridge/larkbridge/mcp/McpResourceContentsBinaryPinLaw" = some m.cls := by rw [hS146.1.alike.findClass]; exact hw144
  have hSn146 : s.Since T146.vm T146.heap.size := hSn144.trans hS146 (Nat.le_trans hkw144 (hG146))
  have X146 : Stand p l e _ (s.setVm T146.vm) m _ below meth c T146 _ _ _ := X146
  obtain ⟨b_146, rfl, N146q, K146, f146_0, f146_1⟩ := hQ146
  have N146 := Fr.app N144 N146q
  have Z147 : n0 ≤ T146.heap.size := Nat.le_trans Z145 K146.1
  have K0_147 : Keep h0 T146.heap [] := K0_145.trans K146 all0
  have O147 : Old Z n0 T146.heap := O145.keep K146 all0
  have hkw146 : T146.heap.size ≤ T146.heap.size := Nat.le_refl _
  have Rb146 : CHr Z own_EL s.vm h0 T146.vm T146.heap := Rb144.trans hC146
  have lo_b_146 : T144.heap.size ≤ b_146 := f146_0
  have g_b_146 : n0 ≤ b_146 := Nat.le_trans Z145 lo_b_146
  have l0_b_146 : h0.size ≤ b_146 := Nat.le_trans K0_145.1 lo_b_146
  obtain ⟨T148, h148, k148, X148, e148, E148, A148, Q148, st148⟩ := newPE X146 hx hZ146 (W 23 rfl) rfl (g := (mkF m 48 #[.val (.int p0), .val (.int p1), .val (.int p2), .val (.int p3), .val (.ref b_144), .val (.int vm_), .val (.ref b_146), .val (.int (0 : Int32)), .unset, .unset, .unset, .unset, .unset, .unset, .unset, .unset, .unset, .unset, .unset, .unset] [(.int (0 : Int32))])) rfl (hb hby at_48) rfl (by decide) (cap := 0) (by decide) (by decide) (by decide) (by decide) (ad := "[B") rfl
  obtain ⟨b148, g148⟩ : ∃ z, z = T146.heap.size := ⟨_, rfl⟩
  rw [← g148] at A148 Q148 st148
  have Z149 : n0 ≤ h148.size := Nat.le_trans Z147 E148.1
  have K0_149 : Keep h0 h148 [] := K0_147.ext E148
  have O149 : Old Z n0 h148 := O147.ext E148
  have R149 : CHr Z own_EL s.vm h0 T146.vm h148 := Rb146.trans (CHr.ext E148 Rb146.1)
  have hk149 : T146.heap.size ≤ h148.size := Nat.le_trans hkw146 E148.1
  have lo_b148 : T146.heap.size ≤ b148 := Nat.le_of_eq g148.symm
  have g_b148 : n0 ≤ b148 := Nat.le_trans Z147 lo_b148
  have l0_b148 : h0.size ≤ b148 := Nat.le_trans K0_147.1 lo_b148
  have sfb148 : Safe Z own_EL T146.vm h148 b148 := Safe.ext E148 Rb146.1 (Safe.new lo_b148)
  have V_b148 : Arv Z h148 b148 k148 .byte (0 : Int32) [] (.int (0 : Int32)) := (Arv.new A148 (by decide)).pad (pad_rep [] (.int (0 : Int32)) 0)
  have f151 := ((f144_1.keep K146).ext E148)
  -- pc 114: com/example/larkbridge/larkbridge/mcp/McpResourceContents.binary
  obtain ⟨_, _, ⟨T150, L150, k150, n150⟩, -, X150, hS150, hG150, ⟨Lc150, hQ150, l150, y150, z150, hC150⟩, st150⟩ := callSS X148 hx (y := y5) hw146 (mvT hZ146 (W 34 rfl)) (mvT hZ146 (W 35 rfl)) (mvT hZ146 (W 36 rfl)) (mvT hZ146 (W 37 rfl)) (by decide) (backOfSH (s := s) (W := 0) (rmmcb l Z a0 G1 hG [] b_144 (.ref b_146) b148 k148 (0 : Int32) ([] : List Value) h148 n0 Z149 O149 f151 Q148 V_b148 rfl (by decide)) hZ146 (W 37 rfl) (W 36 rfl) (by decide) (by decide) hEL R149.1) (g := (mkF m 114 #[.val (.int p0), .val (.int p1), .val (.int p2), .val (.int p3), .val (.ref b_144), .val (.int vm_), .val (.ref b_146), .val (.int (0 : Int32)), .val (.ref b148), .unset, .unset, .unset, .unset, .unset, .unset, .unset, .unset, .unset, .unset, .unset] [(.ref b148), (.ref b_146), (.ref b_144)])) rfl (by rw [hml]; rfl) (argsL := [(.ref b_144), (.ref b_146), (.ref b148)]) (rest := []) (lenOf pd__Ljava_lang_String_Ljava_lang_String__B_Lcom_example_larkbridge_larkbridge_mcp_McpResourceContents_ rfl) rfl (by show 2 * 0 + _ ≤ _; exact Nat.le_of_eq rfl) (hb hby at_114) (fun _ _ => ⟨rfl, e148, (by decide : 13 + 4 ≤ _), (by decide : 24 + 24 ≤ _)⟩)
  dsimp only [Pt.U, Pt.locs, Pt.cells, Pt.slots] at X150 l150 y150 z150 st150 hQ150 hS150 hG150 hC150
  subst l150 y150 z150
  have hZ150 : Z.Warmed39 T150.vm := State.Warmed39.trans (t := s.setVm T146.vm) hZ146 hS150.1
  have hw150 : T150.vm.findClass "com/example/larkbridge/larkbridge/mcp/McpResourceContentsBinaryPinLaw" = some m.cls := by rw [hS150.1.alike.findClass]; exact hw146
  have hSn150 : s.Since T150.vm T150.heap.size := hSn146.trans hS150 (Nat.le_trans hk149 (by have q := hG150; rw [e148] at q; exact q))
  have X150 : Stand p l e _ (s.setVm T150.vm) m _ below meth c T150 _ _ _ := X150
  obtain ⟨b_150, c_150, rfl, N150q, K150, f150_0, f150_1, f150_2, f150_3, f150_4, f150_5, f150_6, f150_7, f150_8⟩ := hQ150
  have N150 := Fr.app N146 N150q
  have Z152 : n0 ≤ T150.heap.size := Nat.le_trans Z149 K150.1
  have K0_152 : Keep h0 T150.heap [] := K0_149.trans K150 all0
  have O152 : Old Z n0 T150.heap := O149.keep K150 all0
  have hkw150 : T150.heap.size ≤ T150.heap.size := Nat.le_refl _
  have sfw152_b148 : Safe Z own_EL T150.vm T150.heap b148 := hC150.safe Q148.lt sfb148
  have Rb150 : CHr Z own_EL s.vm h0 T150.vm T150.heap := R149.trans hC150
  have lo_b_150 : h148.size ≤ b_150 := f150_0
  have g_b_150 : n0 ≤ b_150 := Nat.le_trans Z149 lo_b_150
  have l0_b_150 : h0.size ≤ b_150 := Nat.le_trans K0_149.1 lo_b_150
  have lo_c_150 : h148.size ≤ c_150 := f150_1
  have g_c_150 : n0 ≤ c_150 := Nat.le_trans Z149 lo_c_150
  have l0_c_150 : h0.size ≤ c_150 := Nat.le_trans K0_149.1 lo_c_150
  obtain ⟨cq153, kq153, q153a, q153b, q153c⟩ := isOf hZ150 rfl f150_2
  -- pc 154: com/example/larkbridge/larkbridge/mcp/McpResourceContents.bytes
  obtain ⟨_, _, ⟨T153, L153, k153, n153⟩, -, X153, ⟨Lc153, hQ153, l153, y153, z153⟩, st153⟩ := X150.virtualBack hx (y := y6) (z := y6) hw150 (mvT hZ150 (W 69 rfl)) (mvT hZ150 (W 70 rfl)) (notFace_of_selects (args := #[]) (mvT hZ150 (W 72 rfl))) (mvT hZ150 (W 72 rfl)) (mvT hZ150 (W 71 rfl)) (by decide) (backOf (W := 0) (rmbyt l Z a0 G1 hG [] b_150 c_150 k148 (0 : Int32) ([] : List Value) T150.heap n0 Z152 O152 f150_8 f150_3 f150_4 (by decide)) hZ150 (W 73 rfl) (W 36 rfl) (by decide) (by decide)) q153a q153c (g := (mkF m 154 #[.val (.int p0), .val (.int p1), .val (.int p2), .val (.int p3), .val (.ref b_144), .val (.int vm_), .val (.ref b_146), .val (.int (0 : Int32)), .val (.ref b148), .val (.ref b_150), .unset, .unset, .unset, .unset, .unset, .unset, .unset, .unset, .unset, .unset] [(.ref b_150)])) rfl (by rw [hml]; rfl) (Steps.refl _) (argsL := []) (rest := []) (lenOf pd____B rfl) rfl (by show 2 * 0 + _ ≤ _; exact Nat.le_of_eq rfl) (hb hby at_154) (fun _ _ => ⟨rfl, rfl, (by decide : 17 + 1 ≤ _), (by decide : 48 + 4 ≤ _)⟩)
  dsimp only [Pt.U, Pt.locs, Pt.cells, Pt.slots] at X153 l153 y153 z153 st153 hQ153
  subst l153 y153 z153
  obtain ⟨c_153, rfl, N153q, K153, f153_0, f153_1, f153_2⟩ := hQ153
  have N153 := Fr.app N150 N153q
  have Z154 : n0 ≤ T153.heap.size := Nat.le_trans Z152 K153.1
  have K0_154 : Keep h0 T153.heap [] := K0_152.trans K153 all0
  have O154 : Old Z n0 T153.heap := O152.keep K153 all0
  have R154 : CHr Z own_EL s.vm h0 T150.vm T153.heap := Rb150.trans (CHr.keep K153 sf0 Rb150.1)
  have hk154 : T150.heap.size ≤ T153.heap.size := Nat.le_trans hkw150 K153.1
  have sf154_b148 : Safe Z own_EL T150.vm T153.heap b148 := Safe.keep K153 sf0 Rb150.1 sfw152_b148
  have lo_c_153 : T150.heap.size ≤ c_153 := f153_0
  have g_c_153 : n0 ≤ c_153 := Nat.le_trans Z152 lo_c_153
  have l0_c_153 : h0.size ≤ c_153 := Nat.le_trans K0_152.1 lo_c_153
  have sfc153 : Safe Z own_EL T150.vm T153.heap c_153 := Safe.keep K153 sf0 Rb150.1 (Safe.new lo_c_153)
  -- pc 164: com/example/larkbridge/larkbridge/mcp/McpResourceContentsBinaryPinLaw.same
  obtain ⟨_, _, ⟨T155, L155, k155, n155⟩, -, X155, ⟨Lc155, hQ155, l155, y155, z155⟩, st155⟩ := Jvm.LawKit.callS X153 hx (y := y12) hw150 (mvT hZ150 (W 74 rfl)) (mvT hZ150 (W 75 rfl)) (mvT hZ150 (W 2 rfl)) (mvT hZ150 (W 76 rfl)) (by decide) (backOf (W := 0) (rmsame0 l Z a0 G1 hG [] c_153 p2 k148 T153.heap n0 Z154 O154 f153_2) hZ150 (W 76 rfl) (W 2 rfl) (by decide) (by decide)) (g := (mkF m 164 #[.val (.int p0), .val (.int p1), .val (.int p2), .val (.int p3), .val (.ref b_144), .val (.int vm_), .val (.ref b_146), .val (.int (0 : Int32)), .val (.ref b148), .val (.ref b_150), .val (.ref c_153), .unset, .unset, .unset, .unset, .unset, .unset, .unset, .unset, .unset] [(.int p2), (.int (0 : Int32)), (.ref c_153)])) rfl (by rw [hml]; rfl) (argsL := [(.ref c_153), (.int (0 : Int32)), (.int p2)]) (rest := []) (lenOf pd___BII_Z rfl) rfl (by show 2 * 0 + _ ≤ _; exact Nat.le_of_eq rfl) (hb hby at_164) (fun _ _ => ⟨rfl, rfl, (by decide : 18 + 0 ≤ _), (by decide : 52 + 0 ≤ _)⟩)
  dsimp only [Pt.U, Pt.locs, Pt.cells, Pt.slots] at X155 l155 y155 z155 st155 hQ155
  subst l155 y155 z155
  obtain ⟨rfl, N155q, eq155⟩ := hQ155
  have N155 := Fr.app N153 N155q
  obtain ⟨clq156, Arq156, qaq156, Sq156, Nq156, Hq156, Gq156⟩ := id f153_2
  have f158 := (f150_8.keep K153 nin0)
  have f159 := (f150_3.keep K153)
  have f160 := (f150_4.keep K153 nin0)
  have f161 := (f150_2.keep K153)
  obtain ⟨cq157, kq157, q157a, q157b, q157c⟩ := isOf hZ150 eq155 f161
  -- pc 193: com/example/larkbridge/larkbridge/mcp/McpResourceContents.bytes
  obtain ⟨_, _, ⟨T157, L157, k157, n157⟩, -, X157, ⟨Lc157, hQ157, l157, y157, z157⟩, st157⟩ := X155.virtualBack hx (y := y6) (z := y6) hw150 (mvT hZ150 (W 69 rfl)) (mvT hZ150 (W 70 rfl)) (notFace_of_selects (args := #[]) (mvT hZ150 (W 72 rfl))) (mvT hZ150 (W 72 rfl)) (mvT hZ150 (W 71 rfl)) (by decide) (backOf (W := 0) (rmbyt l Z a0 G1 hG [] b_150 c_150 k148 (0 : Int32) ([] : List Value) T153.heap n0 Z154 O154 f158 f159 f160 (by decide)) hZ150 (W 73 rfl) (W 36 rfl) (by decide) (by decide)) q157a q157c (g := (mkF m 193 #[.val (.int p0), .val (.int p1), .val (.int p2), .val (.int p3), .val (.ref b_144), .val (.int vm_), .val (.ref b_146), .val (.int (0 : Int32)), .val (.ref b148), .val (.ref b_150), .val (.ref c_153), .val (.int (1 : Int32)), .unset, .unset, .unset, .unset, .unset, .unset, .unset, .unset] [(.ref b_150)])) rfl (by rw [hml]; rfl) (Steps.refl _) (argsL := []) (rest := []) (lenOf pd____B rfl) rfl (by show 2 * 0 + _ ≤ _; exact Nat.le_of_eq rfl) (hb hby at_193) (fun _ _ => ⟨rfl, eq155, (by decide : 18 + 1 ≤ _), (by decide : 52 + 4 ≤ _)⟩)
  dsimp only [Pt.U, Pt.locs, Pt.cells, Pt.slots] at X157 l157 y157 z157 st157 hQ157
  subst l157 y157 z157
  obtain ⟨c_157, rfl, N157q, K157, f157_0, f157_1, f157_2⟩ := hQ157
  have N157 := Fr.app N155 N157q
  have Z162 : n0 ≤ T157.heap.size := Nat.le_trans Z154 K157.1
  have K0_162 : Keep h0 T157.heap [] := K0_154.trans K157 all0
  have O162 : Old Z n0 T157.heap := O154.keep K157 all0
  have R162 : CHr Z own_EL s.vm h0 T150.vm T157.heap := R154.trans (CHr.keep K157 sf0 R154.1)
  have hk162 : T150.heap.size ≤ T157.heap.size := Nat.le_trans hk154 K157.1
  have sf162_b148 : Safe Z own_EL T150.vm T157.heap b148 := Safe.keep K157 sf0 R154.1 sf154_b148
  have sf162_c_153 : Safe Z own_EL T150.vm T157.heap c_153 := Safe.keep K157 sf0 R154.1 sfc153
  have lo_c_157 : T153.heap.size ≤ c_157 := f157_0
  have g_c_157 : n0 ≤ c_157 := Nat.le_trans Z154 lo_c_157
  have l0_c_157 : h0.size ≤ c_157 := Nat.le_trans K0_154.1 lo_c_157
  have sfc157 : Safe Z own_EL T150.vm T157.heap c_157 := Safe.keep K157 sf0 R154.1 (Safe.new lo_c_157)
  -- pc 203: com/example/larkbridge/larkbridge/mcp/McpResourceContentsBinaryPinLaw.same
  obtain ⟨_, _, ⟨T163, L163, k163, n163⟩, -, X163, ⟨Lc163, hQ163, l163, y163, z163⟩, st163⟩ := Jvm.LawKit.callS X157 hx (y := y12) hw150 (mvT hZ150 (W 74 rfl)) (mvT hZ150 (W 75 rfl)) (mvT hZ150 (W 2 rfl)) (mvT hZ150 (W 76 rfl)) (by decide) (backOf (W := 0) (rmsame0 l Z a0 G1 hG [] c_157 p2 k148 T157.heap n0 Z162 O162 f157_2) hZ150 (W 76 rfl) (W 2 rfl) (by decide) (by decide)) (g := (mkF m 203 #[.val (.int p0), .val (.int p1), .val (.int p2), .val (.int p3), .val (.ref b_144), .val (.int vm_), .val (.ref b_146), .val (.int (0 : Int32)), .val (.ref b148), .val (.ref b_150), .val (.ref c_153), .val (.int (1 : Int32)), .val (.ref c_157), .unset, .unset, .unset, .unset, .unset, .unset, .unset] [(.int p2), (.int (0 : Int32)), (.ref c_157)])) rfl (by rw [hml]; rfl) (argsL := [(.ref c_157), (.int (0 : Int32)), (.int p2)]) (rest := []) (lenOf pd___BII_Z rfl) rfl (by show 2 * 0 + _ ≤ _; exact Nat.le_of_eq rfl) (hb hby at_203) (fun _ _ => ⟨rfl, rfl, (by decide : 19 + 0 ≤ _), (by decide : 56 + 0 ≤ _)⟩)
  dsimp only [Pt.U, Pt.locs, Pt.cells, Pt.slots] at X163 l163 y163 z163 st163 hQ163
  subst l163 y163 z163
  obtain ⟨rfl, N163q, eq163⟩ := hQ163
  have N163 := Fr.app N157 N163q
  have f165 := ((f150_5.keep K153 nin0).keep K157 nin0)
  have f166 := (f161.keep K157)
  obtain ⟨cq164, kq164, q164a, q164b, q164c⟩ := isOf hZ150 eq163 f166
  -- pc 210: com/example/larkbridge/larkbridge/mcp/McpResourceContents.uri
  obtain ⟨_, _, ⟨T164, L164, k164, n164⟩, -, X164, ⟨Lc164, hQ164, l164, y164, z164⟩, st164⟩ := X163.virtualBack hx (y := y7) (z := y7) hw150 (mvT hZ150 (W 77 rfl)) (mvT hZ150 (W 78 rfl)) (notFace_of_selects (args := #[]) (mvT hZ150 (W 80 rfl))) (mvT hZ150 (W 80 rfl)) (mvT hZ150 (W 79 rfl)) (by decide) (backOf (W := 0) (rmG_McpResourceContents_uri l Z a0 G1 hG [] b_150 (.ref b_144) T157.heap n0 Z162 O162 f165 rfl) hZ150 (W 81 rfl) (W 36 rfl) (by decide) (by decide)) q164a q164c (g := (mkF m 210 #[.val (.int p0), .val (.int p1), .val (.int p2), .val (.int p3), .val (.ref b_144), .val (.int vm_), .val (.ref b_146), .val (.int (0 : Int32)), .val (.ref b148), .val (.ref b_150), .val (.ref c_153), .val (.int (1 : Int32)), .val (.ref c_157), .val (.int (1 : Int32)), .unset, .unset, .unset, .unset, .unset, .unset] [(.ref b_150)])) rfl (by rw [hml]; rfl) (Steps.refl _) (argsL := []) (rest := []) (lenOf pd___Ljava_lang_String_ rfl) rfl (by show 2 * 0 + _ ≤ _; exact Nat.le_of_eq rfl) (hb hby at_210) (fun _ _ => ⟨rfl, eq163, (by decide : 19 + 0 ≤ _), (by decide : 56 + 0 ≤ _)⟩)
  dsimp only [Pt.U, Pt.locs, Pt.cells, Pt.slots] at X164 l164 y164 z164 st164 hQ164
  subst l164 y164 z164
  obtain ⟨rfl, N164q, eq164⟩ := hQ164
  have N164 := Fr.app N163 N164q
  have f168 := (((f151.keep K150).keep K153).keep K157)
  obtain ⟨cq167, kq167, q167a, q167b, q167c⟩ := isOf hZ150 eq164 f168
  -- pc 219: java/lang/String.equals
  obtain ⟨_, _, ⟨T167, L167, k167, n167⟩, -, X167, ⟨Lc167, hQ167, l167, y167, z167⟩, st167⟩ := X164.virtualBack hx (y := y11) (z := y11) hw150 (mvT hZ150 (W 82 rfl)) (mvT hZ150 (W 83 rfl)) (notFace_of_selects (args := #[]) (mvT hZ150 (W 85 rfl))) (mvT hZ150 (W 85 rfl)) (mvT hZ150 (W 84 rfl)) (by decide) (backOf (W := 0) (rmeqs l Z a0 G1 hG [] b_144 T157.heap n0 Z162 O162) hZ150 (W 86 rfl) (W 6 rfl) (by decide) (by decide)) q167a q167c (g := (mkF m 219 #[.val (.int p0), .val (.int p1), .val (.int p2), .val (.int p3), .val (.ref b_144), .val (.int vm_), .val (.ref b_146), .val (.int (0 : Int32)), .val (.ref b148), .val (.ref b_150), .val (.ref c_153), .val (.int (1 : Int32)), .val (.ref c_157), .val (.int (1 : Int32)), .val (.ref b_144), .unset, .unset, .unset, .unset, .unset] [(.ref b_144), (.ref b_144)])) rfl (by rw [hml]; rfl) (Steps.refl _) (argsL := [(.ref b_144)]) (rest := []) (lenOf pd__Ljava_lang_Object__Z rfl) rfl (by show 2 * 0 + _ ≤ _; exact Nat.le_of_eq rfl) (hb hby at_219) (fun _ _ => ⟨rfl, eq164, (by decide : 19 + 0 ≤ _), (by decide : 56 + 0 ≤ _)⟩)
  dsimp only [Pt.U, Pt.locs, Pt.cells, Pt.slots] at X167 l167 y167 z167 st167 hQ167
  subst l167 y167 z167
  obtain ⟨rfl, N167q, eq167⟩ := hQ167
  have N167 := Fr.app N164 N167q
  have f170 := ((f150_6.keep K153 nin0).keep K157 nin0)
  obtain ⟨cq169, kq169, q169a, q169b, q169c⟩ := isOf hZ150 eq167 f166
  -- pc 226: com/example/larkbridge/larkbridge/mcp/McpResourceContents.mimeType
  obtain ⟨_, _, ⟨T169, L169, k169, n169⟩, -, X169, ⟨Lc169, hQ169, l169, y169, z169⟩, st169⟩ := X167.virtualBack hx (y := y8) (z := y8) hw150 (mvT hZ150 (W 87 rfl)) (mvT hZ150 (W 88 rfl)) (notFace_of_selects (args := #[]) (mvT hZ150 (W 90 rfl))) (mvT hZ150 (W 90 rfl)) (mvT hZ150 (W 89 rfl)) (by decide) (backOf (W := 0) (rmG_McpResourceContents_mimeType l Z a0 G1 hG [] b_150 (.ref b_146) T157.heap n0 Z162 O162 f170 rfl) hZ150 (W 91 rfl) (W 36 rfl) (by decide) (by decide)) q169a q169c (g := (mkF m 226 #[.val (.int p0), .val (.int p1), .val (.int p2), .val (.int p3), .val (.ref b_144), .val (.int vm_), .val (.ref b_146), .val (.int (0 : Int32)), .val (.ref b148), .val (.ref b_150), .val (.ref c_153), .val (.int (1 : Int32)), .val (.ref c_157), .val (.int (1 : Int32)), .val (.ref b_144), .val (.int (1 : Int32)), .unset, .unset, .unset, .unset] [(.ref b_150)])) rfl (by rw [hml]; rfl) (Steps.refl _) (argsL := []) (rest := []) (lenOf pd___Ljava_lang_String_ rfl) rfl (by show 2 * 0 + _ ≤ _; exact Nat.le_of_eq rfl) (hb hby at_226) (fun _ _ => ⟨rfl, eq167, (by decide : 19 + 0 ≤ _), (by decide : 56 + 0 ≤ _)⟩)
  dsimp only [Pt.U, Pt.locs, Pt.cells, Pt.slots] at X169 l169 y169 z169 st169 hQ169
  subst l169 y169 z169
  obtain ⟨rfl, N169q, eq169⟩ := hQ169
  have N169 := Fr.app N167 N169q
  have f172 := ((((f146_1.ext E148).keep K150).keep K153).keep K157)
  obtain ⟨cq171, kq171, q171a, q171b, q171c⟩ := isOf hZ150 eq169 f172
  -- pc 253: java/lang/String.equals
  obtain ⟨_, _, ⟨T171, L171, k171, n171⟩, -, X171, ⟨Lc171, hQ171, l171, y171, z171⟩, st171⟩ := X169.virtualBack hx (y := y11) (z := y11) hw150 (mvT hZ150 (W 82 rfl)) (mvT hZ150 (W 83 rfl)) (notFace_of_selects (args := #[]) (mvT hZ150 (W 85 rfl))) (mvT hZ150 (W 85 rfl)) (mvT hZ150 (W 84 rfl)) (by decide) (backOf (W := 0) (rmeqs l Z a0 G1 hG [] b_146 T157.heap n0 Z162 O162) hZ150 (W 86 rfl) (W 6 rfl) (by decide) (by decide)) q171a q171c (g := (mkF m 253 #[.val (.int p0), .val (.int p1), .val (.int p2), .val (.int p3), .val (.ref b_144), .val (.int vm_), .val (.ref b_146), .val (.int (0 : Int32)), .val (.ref b148), .val (.ref b_150), .val (.ref c_153), .val (.int (1 : Int32)), .val (.ref c_157), .val (.int (1 : Int32)), .val (.ref b_144), .val (.int (1 : Int32)), .val (.ref b_146), .unset, .unset, .unset] [(.ref b_146), (.ref b_146)])) rfl (by rw [hml]; rfl) (Steps.refl _) (argsL := [(.ref b_146)]) (rest := []) (lenOf pd__Ljava_lang_Object__Z rfl) rfl (by show 2 * 0 + _ ≤ _; exact Nat.le_of_eq rfl) (hb hby at_253) (fun _ _ => ⟨rfl, eq169, (by decide : 19 + 0 ≤ _), (by decide : 56 + 0 ≤ _)⟩)
  dsimp only [Pt.U, Pt.locs, Pt.cells, Pt.slots] at X171 l171 y171 z171 st171 hQ171
  subst l171 y171 z171
  obtain ⟨rfl, N171q, eq171⟩ := hQ171
  have N171 := Fr.app N169 N171q
  have f174 := ((f150_7.keep K153 nin0).keep K157 nin0)
  obtain ⟨cq173, kq173, q173a, q173b, q173c⟩ := isOf hZ150 eq171 f166
  -- pc 260: com/example/larkbridge/larkbridge/mcp/McpResourceContents.isText
  obtain ⟨_, _, ⟨T173, L173, k173, n173⟩, -, X173, ⟨Lc173, hQ173, l173, y173, z173⟩, st173⟩ := X171.virtualBack hx (y := y9) (z := y9) hw150 (mvT hZ150 (W 92 rfl)) (mvT hZ150 (W 93 rfl)) (notFace_of_selects (args := #[]) (mvT hZ150 (W 95 rfl))) (mvT hZ150 (W 95 rfl)) (mvT hZ150 (W 94 rfl)) (by decide) (backOf (W := 0) (rmist l Z a0 G1 hG [] b_150 T157.heap n0 Z162 O162 f174) hZ150 (W 96 rfl) (W 36 rfl) (by decide) (by decide)) q173a q173c (g := (mkF m 260 #[.val (.int p0), .val (.int p1), .val (.int p2), .val (.int p3), .val (.ref b_144), .val (.int vm_), .val (.ref b_146), .val (.int (0 : Int32)), .val (.ref b148), .val (.ref b_150), .val (.ref c_153), .val (.int (1 : Int32)), .val (.ref c_157), .val (.int (1 : Int32)), .val (.ref b_144), .val (.int (1 : Int32)), .val (.ref b_146), .val (.int (1 : Int32)), .unset, .unset] [(.ref b_150)])) rfl (by rw [hml]; rfl) (Steps.refl _) (argsL := []) (rest := []) (lenOf pd___Z rfl) rfl (by show 2 * 0 + _ ≤ _; exact Nat.le_of_eq rfl) (hb hby at_260) (fun _ _ => ⟨rfl, eq171, (by decide : 19 + 0 ≤ _), (by decide : 56 + 0 ≤ _)⟩)
  dsimp only [Pt.U, Pt.locs, Pt.cells, Pt.slots] at X173 l173 y173 z173 st173 hQ173
  subst l173 y173 z173
  obtain ⟨rfl, N173q, eq173⟩ := hQ173
  have N173 := Fr.app N171 N173q
  obtain ⟨cq175, kq175, q175a, q175b, q175c⟩ := isOf hZ150 eq173 f166
  -- pc 275: com/example/larkbridge/larkbridge/mcp/McpResourceContents.text
  obtain ⟨_, _, ⟨T175, L175, k175, n175⟩, -, X175, ⟨Lc175, hQ175, l175, y175, z175⟩, st175⟩ := X173.virtualBack hx (y := y10) (z := y10) hw150 (mvT hZ150 (W 97 rfl)) (mvT hZ150 (W 98 rfl)) (notFace_of_selects (args := #[]) (mvT hZ150 (W 100 rfl))) (mvT hZ150 (W 100 rfl)) (mvT hZ150 (W 99 rfl)) (by decide) (backOf (W := 0) (rmtxt l Z a0 G1 hG [] b_150 T157.heap n0 Z162 O162 f174) hZ150 (W 101 rfl) (W 36 rfl) (by decide) (by decide)) q175a q175c (g := (mkF m 275 #[.val (.int p0), .val (.int p1), .val (.int p2), .val (.int p3), .val (.ref b_144), .val (.int vm_), .val (.ref b_146), .val (.int (0 : Int32)), .val (.ref b148), .val (.ref b_150), .val (.ref c_153), .val (.int (1 : Int32)), .val (.ref c_157), .val (.int (1 : Int32)), .val (.ref b_144), .val (.int (1 : Int32)), .val (.ref b_146), .val (.int (1 : Int32)), .val (.int (1 : Int32)), .unset] [(.ref b_150)])) rfl (by rw [hml]; rfl) (Steps.refl _) (argsL := []) (rest := []) (lenOf pd___Ljava_lang_String_ rfl) rfl (by show 2 * 0 + _ ≤ _; exact Nat.le_of_eq rfl) (hb hby at_275) (fun _ _ => ⟨rfl, eq173, (by decide : 19 + 0 ≤ _), (by decide : 56 + 0 ≤ _)⟩)
  dsimp only [Pt.U, Pt.locs, Pt.cells, Pt.slots] at X175 l175 y175 z175 st175 hQ175
  subst l175 y175 z175
  obtain ⟨rfl, N175q, eq175⟩ := hQ175
  have N175 := Fr.app N173 N175q
  obtain ⟨fs, hr, hrun, hended, hend⟩ := Jvm.Stand.leaveW (v := some (.int (1 : Int32))) X175 hSn150 (by rw [eq175]; exact hk162) (fun h => by rw [Bd.returns] at h; cases h)
  have hFin := R162.trans (CHv.at X175 hZ150 hEL R162.1)
  refine ⟨_, _, pre0 _ ?_, hrun, hended, _, _, rfl, ?_, ?_, own_mono hend (Nat.le_of_ble_eq_true rfl) (Nat.le_of_ble_eq_true rfl)⟩
  · show Steps p.tables e below (s₁.setTop (mkF m 0 #[.val (.int p0), .val (.int p1), .val (.int p2), .val (.int p3), .unset, .unset, .unset, .unset, .unset, .unset, .unset, .unset, .unset, .unset, .unset, .unset, .unset, .unset, .unset, .unset] [])) _
    refine XS.iloadN X0.here hx rfl (hb hby at_0) rfl ?_
    refine XS.iloadN X0.here hx rfl (hb hby at_1) rfl ?_
    refine XS.iconst X0.here hx rfl (hb hby at_2) ?_
    refine XS.iand X0.here hx rfl (hb hby at_3) rfl ?_
    refine st144.trans ?_
    show Steps p.tables e below (T144.setTop (mkF m 7 #[.val (.int p0), .val (.int p1), .val (.int p2), .val (.int p3), .unset, .unset, .unset, .unset, .unset, .unset, .unset, .unset, .unset, .unset, .unset, .unset, .unset, .unset, .unset, .unset] [(.ref b_144)])) _
    refine XS.astore X144.here hx rfl (hb hby at_7) rfl rfl (l' := #[.val (.int p0), .val (.int p1), .val (.int p2), .val (.int p3), .val (.ref b_144), .unset, .unset, .unset, .unset, .unset, .unset, .unset, .unset, .unset, .unset, .unset, .unset, .unset, .unset, .unset]) rfl ?_
    refine XS.iloadN X144.here hx rfl (hb hby at_9) rfl ?_
    refine XS.iconst X144.here hx rfl (hb hby at_10) ?_
    refine XS.iushr X144.here hx rfl (hb hby at_11) rfl ?_
    refine XS.bipush X144.here hx rfl (hb hby at_12) ?_
    refine XS.iand X144.here hx rfl (hb hby at_14) rfl ?_
    show Steps p.tables e below (T144.setTop (mkF m 15 #[.val (.int p0), .val (.int p1), .val (.int p2), .val (.int p3), .val (.ref b_144), .unset, .unset, .unset, .unset, .unset, .unset, .unset, .unset, .unset, .unset, .unset, .unset, .unset, .unset, .unset] [(.int (((p3.toUInt32 >>> ((2 : Int32) &&& 31).toUInt32).toInt32) &&& (7 : Int32)))])) _
    rw [← hvm]
    show Steps p.tables e below (T144.setTop (mkF m 15 #[.val (.int p0), .val (.int p1), .val (.int p2), .val (.int p3), .val (.ref b_144), .unset, .unset, .unset, .unset, .unset, .unset, .unset, .unset, .unset, .unset, .unset, .unset, .unset, .unset, .unset] [(.int vm_)])) _
    refine XS.istore X144.here hx rfl (hb hby at_15) rfl (l' := #[.val (.int p0), .val (.int p1), .val (.int p2), .val (.int p3), .val (.ref b_144), .val (.int vm_), .unset, .unset, .unset, .unset, .unset, .unset, .unset, .unset, .unset, .unset, .unset, .unset, .unset, .unset]) rfl ?_
    refine XS.iload X144.here hx rfl (hb hby at_17) rfl ?_
    refine XS.ifYes X144.here hx rfl (pc0 := 19) (pc' := 26) rfl (hb hby at_19) rfl ((if0 _ _).trans (feq ((by rw [hvm]; exact hm) : ¬ (vm_ = (0 : Int32)))).2) (by decide) (by decide) ?_
    refine XS.iloadN X144.here hx rfl (hb hby at_26) rfl ?_
    refine XS.iload X144.here hx rfl (hb hby at_27) rfl ?_
    refine XS.iconst X144.here hx rfl (hb hby at_29) ?_
    refine XS.iand X144.here hx rfl (hb hby at_30) rfl ?_
    refine st146.trans ?_
    show Steps p.tables e below (T146.setTop (mkF m 34 #[.val (.int p0), .val (.int p1), .val (.int p2), .val (.int p3), .val (.ref b_144), .val (.int vm_), .unset, .unset, .unset, .unset, .unset, .unset, .unset, .unset, .unset, .unset, .unset, .unset, .unset, .unset] [(.ref b_146)])) _
    refine XS.astore X146.here hx rfl (hb hby at_34) rfl rfl (l' := #[.val (.int p0), .val (.int p1), .val (.int p2), .val (.int p3), .val (.ref b_144), .val (.int vm_), .val (.ref b_146), .unset, .unset, .unset, .unset, .unset, .unset, .unset, .unset, .unset, .unset, .unset, .unset, .unset]) rfl ?_
    refine XS.iloadN X146.here hx rfl (hb hby at_36) rfl ?_
    refine XS.iconst X146.here hx rfl (hb hby at_37) ?_
    refine XS.iushr X146.here hx rfl (hb hby at_38) rfl ?_
    refine XS.bipush X146.here hx rfl (hb hby at_39) ?_
    refine XS.iand X146.here hx rfl (hb hby at_41) rfl ?_
    refine XS.iconst X146.here hx rfl (hb hby at_42) ?_
    refine iremM (g := (mkF m 43 #[.val (.int p0), .val (.int p1), .val (.int p2), .val (.int p3), .val (.ref b_144), .val (.int vm_), .val (.ref b_146), .unset, .unset, .unset, .unset, .unset, .unset, .unset, .unset, .unset, .unset, .unset, .unset, .unset] [(.int (5 : Int32)), (.int (((p3.toUInt32 >>> ((5 : Int32) &&& 31).toUInt32).toInt32) &&& (7 : Int32)))])) X146 hx rfl (hb hby at_43) rfl (by decide) ?_
    show Steps p.tables e below (T146.setTop (mkF m 44 #[.val (.int p0), .val (.int p1), .val (.int p2), .val (.int p3), .val (.ref b_144), .val (.int vm_), .val (.ref b_146), .unset, .unset, .unset, .unset, .unset, .unset, .unset, .unset, .unset, .unset, .unset, .unset, .unset] [(.int ((((p3.toUInt32 >>> ((5 : Int32) &&& 31).toUInt32).toInt32) &&& (7 : Int32)) % (5 : Int32)))])) _
    rw [hn]
    show Steps p.tables e below (T146.setTop (mkF m 44 #[.val (.int p0), .val (.int p1), .val (.int p2), .val (.int p3), .val (.ref b_144), .val (.int vm_), .val (.ref b_146), .unset, .unset, .unset, .unset, .unset, .unset, .unset, .unset, .unset, .unset, .unset, .unset, .unset] [(.int (0 : Int32))])) _
    refine XS.istore X146.here hx rfl (hb hby at_44) rfl (l' := #[.val (.int p0), .val (.int p1), .val (.int p2), .val (.int p3), .val (.ref b_144), .val (.int vm_), .val (.ref b_146), .val (.int (0 : Int32)), .unset, .unset, .unset, .unset, .unset, .unset, .unset, .unset, .unset, .unset, .unset, .unset]) rfl ?_
    refine XS.iload X146.here hx rfl (hb hby at_46) rfl ?_
    refine st148 _ ?_
    show Steps p.tables e below (T148.setTop (mkF m 50 #[.val (.int p0), .val (.int p1), .val (.int p2), .val (.int p3), .val (.ref b_144), .val (.int vm_), .val (.ref b_146), .val (.int (0 : Int32)), .unset, .unset, .unset, .unset, .unset, .unset, .unset, .unset, .unset, .unset, .unset, .unset] [(.ref b148)])) _
    refine XS.astore X148.here hx rfl (hb hby at_50) rfl rfl (l' := #[.val (.int p0), .val (.int p1), .val (.int p2), .val (.int p3), .val (.ref b_144), .val (.int vm_), .val (.ref b_146), .val (.int (0 : Int32)), .val (.ref b148), .unset, .unset, .unset, .unset, .unset, .unset, .unset, .unset, .unset, .unset, .unset]) rfl ?_
    refine XS.iload X148.here hx rfl (hb hby at_52) rfl ?_
    refine XS.ifYes X148.here hx rfl (pc0 := 54) (pc' := 63) rfl (hb hby at_54) rfl ((if0 _ _).trans (flt (by decide : ¬ ((0 : Int32) < (0 : Int32)))).2.2.2) (by decide) (by decide) ?_
    refine XS.iload X148.here hx rfl (hb hby at_63) rfl ?_
    refine XS.iconst X148.here hx rfl (hb hby at_65) ?_
    refine XS.icmpYes X148.here hx rfl (pc0 := 66) (pc' := 78) rfl (hb hby at_66) rfl (flt (by decide : ¬ ((1 : Int32) < (0 : Int32)))).2.2.2 (by decide) (by decide) ?_
    refine XS.iload X148.here hx rfl (hb hby at_78) rfl ?_
    refine XS.iconst X148.here hx rfl (hb hby at_80) ?_
    show Steps p.tables e below (T148.setTop (mkF m 81 #[.val (.int p0), .val (.int p1), .val (.int p2), .val (.int p3), .val (.ref b_144), .val (.int vm_), .val (.ref b_146), .val (.int (0 : Int32)), .val (.ref b148), .unset, .unset, .unset, .unset, .unset, .unset, .unset, .unset, .unset, .unset, .unset] [(.int (2 : Int32)), (.int (0 : Int32))])) _
    refine XS.icmpYes X148.here hx rfl (pc0 := 81) (pc' := 93) rfl (hb hby at_81) rfl (flt (by decide : ¬ ((2 : Int32) < (0 : Int32)))).2.2.2 (by decide) (by decide) ?_
    refine XS.iload X148.here hx rfl (hb hby at_93) rfl ?_
    refine XS.iconst X148.here hx rfl (hb hby at_95) ?_
    refine XS.icmpYes X148.here hx rfl (pc0 := 96) (pc' := 108) rfl (hb hby at_96) rfl (flt (by decide : ¬ ((3 : Int32) < (0 : Int32)))).2.2.2 (by decide) (by decide) ?_
    refine XS.aload X148.here hx rfl (hb hby at_108) rfl rfl ?_
    refine XS.aload X148.here hx rfl (hb hby at_110) rfl rfl ?_
    refine XS.aload X148.here hx rfl (hb hby at_112) rfl rfl ?_
    refine st150.trans ?_
    show Steps p.tables e below (T150.setTop (mkF m 117 #[.val (.int p0), .val (.int p1), .val (.int p2), .val (.int p3), .val (.ref b_144), .val (.int vm_), .val (.ref b_146), .val (.int (0 : Int32)), .val (.ref b148), .unset, .unset, .unset, .unset, .unset, .unset, .unset, .unset, .unset, .unset, .unset] [(.ref b_150)])) _
    refine XS.astore X150.here hx rfl (hb hby at_117) rfl rfl (l' := #[.val (.int p0), .val (.int p1), .val (.int p2), .val (.int p3), .val (.ref b_144), .val (.int vm_), .val (.ref b_146), .val (.int (0 : Int32)), .val (.ref b148), .val (.ref b_150), .unset, .unset, .unset, .unset, .unset, .unset, .unset, .unset, .unset, .unset]) rfl ?_
    refine XS.iload X150.here hx rfl (hb hby at_119) rfl ?_
    refine XS.ifYes X150.here hx rfl (pc0 := 121) (pc' := 135) rfl (hb hby at_121) rfl ((if0 _ _).trans (flt (by decide : ¬ ((0 : Int32) < (0 : Int32)))).2.2.2) (by decide) (by decide) ?_
    refine XS.iload X150.here hx rfl (hb hby at_135) rfl ?_
    refine XS.iconst X150.here hx rfl (hb hby at_137) ?_
    refine XS.icmpYes X150.here hx rfl (pc0 := 138) (pc' := 152) rfl (hb hby at_138) rfl (flt (by decide : ¬ ((3 : Int32) < (0 : Int32)))).2.2.2 (by decide) (by decide) ?_
    refine XS.aload X150.here hx rfl (hb hby at_152) rfl rfl ?_
    refine st153.trans ?_
    show Steps p.tables e below (T153.setTop (mkF m 157 #[.val (.int p0), .val (.int p1), .val (.int p2), .val (.int p3), .val (.ref b_144), .val (.int vm_), .val (.ref b_146), .val (.int (0 : Int32)), .val (.ref b148), .val (.ref b_150), .unset, .unset, .unset, .unset, .unset, .unset, .unset, .unset, .unset, .unset] [(.ref c_153)])) _
    refine XS.astore X153.here hx rfl (hb hby at_157) rfl rfl (l' := #[.val (.int p0), .val (.int p1), .val (.int p2), .val (.int p3), .val (.ref b_144), .val (.int vm_), .val (.ref b_146), .val (.int (0 : Int32)), .val (.ref b148), .val (.ref b_150), .val (.ref c_153), .unset, .unset, .unset, .unset, .unset, .unset, .unset, .unset, .unset]) rfl ?_
    refine XS.aload X153.here hx rfl (hb hby at_159) rfl rfl ?_
    refine XS.iload X153.here hx rfl (hb hby at_161) rfl ?_
    refine XS.iloadN X153.here hx rfl (hb hby at_163) rfl ?_
    refine st155 _ ?_
    show Steps p.tables e below (T155.setTop (mkF m 167 #[.val (.int p0), .val (.int p1), .val (.int p2), .val (.int p3), .val (.ref b_144), .val (.int vm_), .val (.ref b_146), .val (.int (0 : Int32)), .val (.ref b148), .val (.ref b_150), .val (.ref c_153), .unset, .unset, .unset, .unset, .unset, .unset, .unset, .unset, .unset] [(.int (1 : Int32))])) _
    refine XS.istore X155.here hx rfl (hb hby at_167) rfl (l' := #[.val (.int p0), .val (.int p1), .val (.int p2), .val (.int p3), .val (.ref b_144), .val (.int vm_), .val (.ref b_146), .val (.int (0 : Int32)), .val (.ref b148), .val (.ref b_150), .val (.ref c_153), .val (.int (1 : Int32)), .unset, .unset, .unset, .unset, .unset, .unset, .unset, .unset]) rfl ?_
    refine XS.aload X155.here hx rfl (hb hby at_169) rfl rfl ?_
    refine XS.ifnullNo X155.here hx rfl (hb hby at_171) rfl ?_
    refine XS.aload X155.here hx rfl (hb hby at_174) rfl rfl ?_
    refine X155.arraylength hx (own_cell eq155 Arq156.1) (State.isArrayOf_alike hZ150.alike Arq156.2.1) (g := (mkF m 176 #[.val (.int p0), .val (.int p1), .val (.int p2), .val (.int p3), .val (.ref b_144), .val (.int vm_), .val (.ref b_146), .val (.int (0 : Int32)), .val (.ref b148), .val (.ref b_150), .val (.ref c_153), .val (.int (1 : Int32)), .unset, .unset, .unset, .unset, .unset, .unset, .unset, .unset] [(.ref c_153)])) rfl rfl (hb hby at_176) _ ?_
    rw [len_of Sq156 Nq156]
    refine XS.ifYes X155.here hx rfl (pc0 := 177) (pc' := 191) rfl (hb hby at_177) rfl ((if0 _ _).trans (flt (by decide : ¬ ((0 : Int32) < (0 : Int32)))).2.2.2) (by decide) (by decide) ?_
    refine XS.aload X155.here hx rfl (hb hby at_191) rfl rfl ?_
    refine st157.trans ?_
    show Steps p.tables e below (T157.setTop (mkF m 196 #[.val (.int p0), .val (.int p1), .val (.int p2), .val (.int p3), .val (.ref b_144), .val (.int vm_), .val (.ref b_146), .val (.int (0 : Int32)), .val (.ref b148), .val (.ref b_150), .val (.ref c_153), .val (.int (1 : Int32)), .unset, .unset, .unset, .unset, .unset, .unset, .unset, .unset] [(.ref c_157)])) _
    refine XS.astore X157.here hx rfl (hb hby at_196) rfl rfl (l' := #[.val (.int p0), .val (.int p1), .val (.int p2), .val (.int p3), .val (.ref b_144), .val (.int vm_), .val (.ref b_146), .val (.int (0 : Int32)), .val (.ref b148), .val (.ref b_150), .val (.ref c_153), .val (.int (1 : Int32)), .val (.ref c_157), .unset, .unset, .unset, .unset, .unset, .unset, .unset]) rfl ?_
    refine XS.aload X157.here hx rfl (hb hby at_198) rfl rfl ?_
    refine XS.iload X157.here hx rfl (hb hby at_200) rfl ?_
    refine XS.iloadN X157.here hx rfl (hb hby at_202) rfl ?_
    refine st163 _ ?_
    show Steps p.tables e below (T163.setTop (mkF m 206 #[.val (.int p0), .val (.int p1), .val (.int p2), .val (.int p3), .val (.ref b_144), .val (.int vm_), .val (.ref b_146), .val (.int (0 : Int32)), .val (.ref b148), .val (.ref b_150), .val (.ref c_153), .val (.int (1 : Int32)), .val (.ref c_157), .unset, .unset, .unset, .unset, .unset, .unset, .unset] [(.int (1 : Int32))])) _
    refine XS.istore X163.here hx rfl (hb hby at_206) rfl (l' := #[.val (.int p0), .val (.int p1), .val (.int p2), .val (.int p3), .val (.ref b_144), .val (.int vm_), .val (.ref b_146), .val (.int (0 : Int32)), .val (.ref b148), .val (.ref b_150), .val (.ref c_153), .val (.int (1 : Int32)), .val (.ref c_157), .val (.int (1 : Int32)), .unset, .unset, .unset, .unset, .unset, .unset]) rfl ?_
    refine XS.aload X163.here hx rfl (hb hby at_208) rfl rfl ?_
    refine st164.trans ?_
    show Steps p.tables e below (T164.setTop (mkF m 213 #[.val (.int p0), .val (.int p1), .val (.int p2), .val (.int p3), .val (.ref b_144), .val (.int vm_), .val (.ref b_146), .val (.int (0 : Int32)), .val (.ref b148), .val (.ref b_150), .val (.ref c_153), .val (.int (1 : Int32)), .val (.ref c_157), .val (.int (1 : Int32)), .unset, .unset, .unset, .unset, .unset, .unset] [(.ref b_144)])) _
    refine XS.astore X164.here hx rfl (hb hby at_213) rfl rfl (l' := #[.val (.int p0), .val (.int p1), .val (.int p2), .val (.int p3), .val (.ref b_144), .val (.int vm_), .val (.ref b_146), .val (.int (0 : Int32)), .val (.ref b148), .val (.ref b_150), .val (.ref c_153), .val (.int (1 : Int32)), .val (.ref c_157), .val (.int (1 : Int32)), .val (.ref b_144), .unset, .unset, .unset, .unset, .unset]) rfl ?_
    refine XS.aload X164.here hx rfl (hb hby at_215) rfl rfl ?_
    refine XS.aload X164.here hx rfl (hb hby at_217) rfl rfl ?_
    refine st167.trans ?_
    show Steps p.tables e below (T167.setTop (mkF m 222 #[.val (.int p0), .val (.int p1), .val (.int p2), .val (.int p3), .val (.ref b_144), .val (.int vm_), .val (.ref b_146), .val (.int (0 : Int32)), .val (.ref b148), .val (.ref b_150), .val (.ref c_153), .val (.int (1 : Int32)), .val (.ref c_157), .val (.int (1 : Int32)), .val (.ref b_144), .unset, .unset, .unset, .unset, .unset] [(.int (1 : Int32))])) _
    refine XS.istore X167.here hx rfl (hb hby at_222) rfl (l' := #[.val (.int p0), .val (.int p1), .val (.int p2), .val (.int p3), .val (.ref b_144), .val (.int vm_), .val (.ref b_146), .val (.int (0 : Int32)), .val (.ref b148), .val (.ref b_150), .val (.ref c_153), .val (.int (1 : Int32)), .val (.ref c_157), .val (.int (1 : Int32)), .val (.ref b_144), .val (.int (1 : Int32)), .unset, .unset, .unset, .unset]) rfl ?_
    refine XS.aload X167.here hx rfl (hb hby at_224) rfl rfl ?_
    refine st169.trans ?_
    show Steps p.tables e below (T169.setTop (mkF m 229 #[.val (.int p0), .val (.int p1), .val (.int p2), .val (.int p3), .val (.ref b_144), .val (.int vm_), .val (.ref b_146), .val (.int (0 : Int32)), .val (.ref b148), .val (.ref b_150), .val (.ref c_153), .val (.int (1 : Int32)), .val (.ref c_157), .val (.int (1 : Int32)), .val (.ref b_144), .val (.int (1 : Int32)), .unset, .unset, .unset, .unset] [(.ref b_146)])) _
    refine XS.astore X169.here hx rfl (hb hby at_229) rfl rfl (l' := #[.val (.int p0), .val (.int p1), .val (.int p2), .val (.int p3), .val (.ref b_144), .val (.int vm_), .val (.ref b_146), .val (.int (0 : Int32)), .val (.ref b148), .val (.ref b_150), .val (.ref c_153), .val (.int (1 : Int32)), .val (.ref c_157), .val (.int (1 : Int32)), .val (.ref b_144), .val (.int (1 : Int32)), .val (.ref b_146), .unset, .unset, .unset]) rfl ?_
    refine XS.aload X169.here hx rfl (hb hby at_231) rfl rfl ?_
    refine XS.ifnonnullYes X169.here hx rfl (pc0 := 233) (pc' := 249) rfl (hb hby at_233) rfl (by decide) (by decide) ?_
    refine XS.aload X169.here hx rfl (hb hby at_249) rfl rfl ?_
    refine XS.aload X169.here hx rfl (hb hby at_251) rfl rfl ?_
    refine st171.trans ?_
    show Steps p.tables e below (T171.setTop (mkF m 256 #[.val (.int p0), .val (.int p1), .val (.int p2), .val (.int p3), .val (.ref b_144), .val (.int vm_), .val (.ref b_146), .val (.int (0 : Int32)), .val (.ref b148), .val (.ref b_150), .val (.ref c_153), .val (.int (1 : Int32)), .val (.ref c_157), .val (.int (1 : Int32)), .val (.ref b_144), .val (.int (1 : Int32)), .val (.ref b_146), .unset, .unset, .unset] [(.int (1 : Int32))])) _
    refine XS.istore X171.here hx rfl (hb hby at_256) rfl (l' := #[.val (.int p0), .val (.int p1), .val (.int p2), .val (.int p3), .val (.ref b_144), .val (.int vm_), .val (.ref b_146), .val (.int (0 : Int32)), .val (.ref b148), .val (.ref b_150), .val (.ref c_153), .val (.int (1 : Int32)), .val (.ref c_157), .val (.int (1 : Int32)), .val (.ref b_144), .val (.int (1 : Int32)), .val (.ref b_146), .val (.int (1 : Int32)), .unset, .unset]) rfl ?_
    refine XS.aload X171.here hx rfl (hb hby at_258) rfl rfl ?_
    refine st173.trans ?_
    show Steps p.tables e below (T173.setTop (mkF m 263 #[.val (.int p0), .val (.int p1), .val (.int p2), .val (.int p3), .val (.ref b_144), .val (.int vm_), .val (.ref b_146), .val (.int (0 : Int32)), .val (.ref b148), .val (.ref b_150), .val (.ref c_153), .val (.int (1 : Int32)), .val (.ref c_157), .val (.int (1 : Int32)), .val (.ref b_144), .val (.int (1 : Int32)), .val (.ref b_146), .val (.int (1 : Int32)), .unset, .unset] [(.int (0 : Int32))])) _
    refine XS.ifNo X173.here hx rfl (hb hby at_263) rfl ((if0 _ _).trans (teq (by decide : (0 : Int32) = (0 : Int32))).2) ?_
    refine XS.iconst X173.here hx rfl (hb hby at_266) ?_
    refine XS.goto X173.here hx rfl (pc0 := 267) (pc' := 271) rfl (hb hby at_267) (by decide) (by decide) ?_
    refine XS.istore X173.here hx rfl (hb hby at_271) rfl (l' := #[.val (.int p0), .val (.int p1), .val (.int p2), .val (.int p3), .val (.ref b_144), .val (.int vm_), .val (.ref b_146), .val (.int (0 : Int32)), .val (.ref b148), .val (.ref b_150), .val (.ref c_153), .val (.int (1 : Int32)), .val (.ref c_157), .val (.int (1 : Int32)), .val (.ref b_144), .val (.int (1 : Int32)), .val (.ref b_146), .val (.int (1 : Int32)), .val (.int (1 : Int32)), .unset]) rfl ?_
    refine XS.aload X173.here hx rfl (hb hby at_273) rfl rfl ?_
    refine st175.trans ?_
    show Steps p.tables e below (T175.setTop (mkF m 278 #[.val (.int p0), .val (.int p1), .val (.int p2), .val (.int p3), .val (.ref b_144), .val (.int vm_), .val (.ref b_146), .val (.int (0 : Int32)), .val (.ref b148), .val (.ref b_150), .val (.ref c_153), .val (.int (1 : Int32)), .val (.ref c_157), .val (.int (1 : Int32)), .val (.ref b_144), .val (.int (1 : Int32)), .val (.ref b_146), .val (.int (1 : Int32)), .val (.int (1 : Int32)), .unset] [.null])) _
    refine XS.ifnonnullNo X175.here hx rfl (hb hby at_278) rfl ?_
    refine XS.iconst X175.here hx rfl (hb hby at_281) ?_
    refine XS.goto X175.here hx rfl (pc0 := 282) (pc' := 286) rfl (hb hby at_282) (by decide) (by decide) ?_
    refine XS.istore X175.here hx rfl (hb hby at_286) rfl (l' := #[.val (.int p0), .val (.int p1), .val (.int p2), .val (.int p3), .val (.ref b_144), .val (.int vm_), .val (.ref b_146), .val (.int (0 : Int32)), .val (.ref b148), .val (.ref b_150), .val (.ref c_153), .val (.int (1 : Int32)), .val (.ref c_157), .val (.int (1 : Int32)), .val (.ref b_144), .val (.int (1 : Int32)), .val (.ref b_146), .val (.int (1 : Int32)), .val (.int (1 : Int32)), .val (.int (1 : Int32))]) rfl ?_
    refine XS.iload X175.here hx rfl (hb hby at_288) rfl ?_
    refine XS.ifNo X175.here hx rfl (hb hby at_290) rfl ((if0 _ _).trans (feq (by decide : ¬ ((1 : Int32) = (0 : Int32)))).1) ?_
    refine XS.iload X175.here hx rfl (hb hby at_293) rfl ?_
    refine XS.ifNo X175.here hx rfl (hb hby at_295) rfl ((if0 _ _).trans (feq (by decide : ¬ ((1 : Int32) = (0 : Int32)))).1) ?_
    show Steps p.tables e below (T175.setTop (mkF m 298 #[.val (.int p0), .val (.int p1), .val (.int p2), .val (.int p3), .val (.ref b_144), .val (.int vm_), .val (.ref b_146), .val (.int (0 : Int32)), .val (.ref b148), .val (.ref b_150), .val (.ref c_153), .val (.int (1 : Int32)), .val (.ref c_157), .val (.int (1 : Int32)), .val (.ref b_144), .val (.int (1 : Int32)), .val (.ref b_146), .val (.int (1 : Int32)), .val (.int (1 : Int32)), .val (.int (1 : Int32))] [])) _
    refine XS.iload X175.here hx rfl (hb hby at_298) rfl ?_
    refine XS.ifNo X175.here hx rfl (hb hby at_300) rfl ((if0 _ _).trans (feq (by decide : ¬ ((1 : Int32) = (0 : Int32)))).1) ?_
    refine XS.iload X175.here hx rfl (hb hby at_303) rfl ?_
    refine XS.ifNo X175.here hx rfl (hb hby at_305) rfl ((if0 _ _).trans (feq (by decide : ¬ ((1 : Int32) = (0 : Int32)))).1) ?_
    refine XS.iload X175.here hx rfl (hb hby at_308) rfl ?_
    refine XS.ifNo X175.here hx rfl (hb hby at_310) rfl ((if0 _ _).trans (feq (by decide : ¬ ((1 : Int32) = (0 : Int32)))).1) ?_
    refine XS.iload X175.here hx rfl (hb hby at_313) rfl ?_
    refine XS.ifNo X175.here hx rfl (hb hby at_315) rfl ((if0 _ _).trans (feq (by decide : ¬ ((1 : Int32) = (0 : Int32)))).1) ?_
    show Steps p.tables e below (T175.setTop (mkF m 318 #[.val (.int p0), .val (.int p1), .val (.int p2), .val (.int p3), .val (.ref b_144), .val (.int vm_), .val (.ref b_146), .val (.int (0 : Int32)), .val (.ref b148), .val (.ref b_150), .val (.ref c_153), .val (.int (1 : Int32)), .val (.ref c_157), .val (.int (1 : Int32)), .val (.ref b_144), .val (.int (1 : Int32)), .val (.ref b_146), .val (.int (1 : Int32)), .val (.int (1 : Int32)), .val (.int (1 : Int32))] [])) _
    refine XS.iconst X175.here hx rfl (hb hby at_318) ?_
    refine XS.goto X175.here hx rfl (pc0 := 319) (pc' := 323) rfl (hb hby at_319) (by decide) (by decide) ?_
    exact retN X175 hx (t := .boolean) Bd.returns (by simp) (hb hby at_323) hr
  · show Q0 Z G1 p0 p1 p2 p3 h0 n0 _ T175.heap _
    rw [eq175]
    exact ⟨rfl, N175, K0_162⟩
  · show CHr Z own_EL s.vm s.heap T175.vm T175.heap
    rw [hh, eq175]
    exact hFin
set_option maxRecDepth 65536 in
set_option maxHeartbeats 40000000 in
theorem rm0_0f (l : Launch) (Z : State) (a0 : Array Value) (G1 : Int32) (hG : Glob Z a0 G1) (ws : List Jvm.Cond) (p0 : Int32) (p1 : Int32) (p2 : Int32) (p3 : Int32) (h0 : Heap) (n0 : Nat) (Z0 : n0 ≤ h0.size) (X00 : Old Z n0 h0) (hn : ((((p3.toUInt32 >>> ((5 : Int32) &&& 31).toUInt32).toInt32) &&& (7 : Int32)) % (5 : Int32)) = (0 : Int32)) (hm : (((p3.toUInt32 >>> ((2 : Int32) &&& 31).toUInt32).toInt32) &&& (7 : Int32)) = (0 : Int32)) :
    MetFree l x (head1 (Jvm.Cond.code x code maxLocals ret :: ws) room_1) (fun a U => a = #[(.int p0), (.int p1), (.int p2), (.int p3)] ∧ Z.Warmed39 U.vm ∧ U.heap = h0 ∧ CHv Z own_EL U.vm h0) (fun _ _ _ _ _ => True) (fun _ U o U' => ∃ v L, o = .returned v ∧ Q0 Z G1 p0 p1 p2 p3 h0 n0 v U'.heap L ∧ CHr Z own_EL U.vm U.heap U'.vm U'.heap ∧ ReturnedEndW U o U' L room_1.cells room_1.slots) := by
  obtain ⟨hw, O_cs, P_cs⟩ := id hG
  have W : ∀ (i : Nat) {d : Jvm.Cond}, tables_1[i]? = some d → d.before a0 Z = true := fun i d h => hw d (List.mem_of_getElem? h)
  refine MetFree.of_bodySF (plainFor_of_name pn_com_example_larkbridge_larkbridge_mcp_McpResourceContentsBinaryPinLaw) hisR ?_
  intro p e s m args below meth c s₁ Bd hml0 hP hK
  obtain ⟨rfl, hZ, hh, hCH⟩ := hP
  have hx := Bd.exec
  have hby := Bd.bytes
  have hml : c.maxLocals = 20 := hml0
  have hown : s.vm.findClass "com/example/larkbridge/larkbridge/mcp/McpResourceContentsBinaryPinLaw" = some m.cls := findClass_of_methodNamed Bd.named
  have hnm := (name_of_methodNamed Bd.named Bd.method).1
  have X0 : Stand p l e room_1 (s.setVm s.vm) m #[(.int p0), (.int p1), (.int p2), (.int p3)] below meth c s₁ [] 0 0 := Stand.of_body Bd
  have e0 : s₁.heap = h0 := by rw [← hh, Bd.state]; rfl
  have hS0 : s.Since s.vm h0.size := (State.WarmedH.refl s).since _
  have hk0 : h0.size ≤ h0.size := Nat.le_refl _
  have R0 : CHr Z own_EL s.vm h0 s.vm h0 := CHr.refl hCH
  have hEL := own_ew hw
  have N0 := Fr.nil n0
  have pre0 : ∀ t, Steps p.tables e below (s₁.setTop (mkF m 0 #[.val (.int p0), .val (.int p1), .val (.int p2), .val (.int p3), .unset, .unset, .unset, .unset, .unset, .unset, .unset, .unset, .unset, .unset, .unset, .unset, .unset, .unset, .unset, .unset] [])) t → Steps p.tables e below (s₁.setTop (entryFrame m #[(.int p0), (.int p1), (.int p2), (.int p3)] maxLocals)) t := fun t kk_ => castTop (ef_code_IIII m p0 p1 p2 p3) kk_
  -- pc 4: com/example/larkbridge/larkbridge/mcp/McpResourceContentsBinaryPinLaw.str
  obtain ⟨_, _, ⟨T176, L176, k176, n176⟩, -, X176, hS176, hG176, ⟨Lc176, hQ176, l176, y176, z176, hC176⟩, st176⟩ := callSS X0 hx (y := y3) hown (mvT hZ (W 0 rfl)) (mvT hZ (W 1 rfl)) (mvT hZ (W 2 rfl)) (mvT hZ (W 3 rfl)) (by decide) (backOfSH (s := s) (W := 0) (rmstr l Z a0 G1 hG [] p0 (p3 &&& (3 : Int32)) h0 n0 Z0 X00) hZ (W 3 rfl) (W 2 rfl) (by decide) (by decide) hEL R0.1) (g := (mkF m 4 #[.val (.int p0), .val (.int p1), .val (.int p2), .val (.int p3), .unset, .unset, .unset, .unset, .unset, .unset, .unset, .unset, .unset, .unset, .unset, .unset, .unset, .unset, .unset, .unset] [(.int (p3 &&& (3 : Int32))), (.int p0)])) rfl (by rw [hml]; rfl) (argsL := [(.int p0), (.int (p3 &&& (3 : Int32)))]) (rest := []) (lenOf pd__II_Ljava_lang_String_ rfl) rfl (by show 2 * 0 + _ ≤ _; exact Nat.le_of_eq rfl) (hb hby at_4) (fun _ _ => ⟨rfl, e0, (by decide : 0 + 6 ≤ _), (by decide : 0 + 12 ≤ _)⟩)
  dsimp only [Pt.U, Pt.locs, Pt.cells, Pt.slots] at X176 l176 y176 z176 st176 hQ176 hS176 hG176 hC176
  subst l176 y176 z176
  have hZ176 : Z.Warmed39 T176.vm := State.Warmed39.trans (t := s.setVm s.vm) hZ hS176.1
  have hw176 : T176.vm.findClass "com/example/larkbridge/larkbridge/mcp/McpResourceContentsBinaryPinLaw" = some m.cls := by rw [hS176.1.alike.findClass]; exact hown
  have hSn176 : s.Since T176.vm T176.heap.size := hS0.trans hS176 (Nat.le_trans hk0 (by have q := hG176; rw [e0] at q; exact q))
  have X176 : Stand p l e _ (s.setVm T176.vm) m _ below meth c T176 _ _ _ := X176
  obtain ⟨b_176, rfl, N176q, K176, f176_0, f176_1⟩ := hQ176
  have N176 := Fr.app N0 N176q
  have Z177 : n0 ≤ T176.heap.size := Nat.le_trans Z0 K176.1
  have K0_177 : Keep h0 T176.heap [] := (Keep.refl h0 []).trans K176 all0
  have O177 : Old Z n0 T176.heap := X00.keep K176 all0
  have hkw176 : T176.heap.size ≤ T176.heap.size := Nat.le_refl _
  have Rb176 : CHr Z own_EL s.vm h0 T176.vm T176.heap := R0.trans hC176
  have lo_b_176 : h0.size ≤ b_176 := f176_0
  have g_b_176 : n0 ≤ b_176 := Nat.le_trans Z0 lo_b_176
  have l0_b_176 : h0.size ≤ b_176 := Nat.le_trans (Keep.refl h0 []).1 lo_b_176
  obtain ⟨vm_, hvm⟩ : ∃ z : Int32, z = (((p3.toUInt32 >>> ((2 : Int32) &&& 31).toUInt32).toInt32) &&& (7 : Int32)) := ⟨_, rfl⟩
  obtain ⟨T178, h178, k178, X178, e178, E178, A178, Q178, st178⟩ := newPE X176 hx hZ176 (W 23 rfl) rfl (g := (mkF m 48 #[.val (.int p0), .val (.int p1), .val (.int p2), .val (.int p3), .val (.ref b_176), .val (.int vm_), .val .null, .val (.int (0 : Int32)), .unset, .unset, .unset, .unset, .unset, .unset, .unset, .unset, .unset, .unset, .unset, .unset] [(.int (0 : Int32))])) rfl (hb hby at_48) rfl (by decide) (cap := 0) (by decide) (by decide) (by decide) (by decide) (ad := "[B") rfl
  obtain ⟨b178, g178⟩ : ∃ z, z = T176.heap.size := ⟨_, rfl⟩
  rw [← g178] at A178 Q178 st178
  have Z179 : n0 ≤ h178.size := Nat.le_trans Z177 E178.1
  have K0_179 : Keep h0 h178 [] := K0_177.ext E178
  have O179 : Old Z n0 h178 := O177.ext E178
  have R179 : CHr Z own_EL s.vm h0 T176.vm h178 := Rb176.trans (CHr.ext E178 Rb176.1)
  have hk179 : T176.heap.size ≤ h178.size := Nat.le_trans hkw176 E178.1
  have lo_b178 : T176.heap.size ≤ b178 := Nat.le_of_eq g178.symm
  have g_b178 : n0 ≤ b178 := Nat.le_trans Z177 lo_b178
  have l0_b178 : h0.size ≤ b178 := Nat.le_trans K0_177.1 lo_b178
  have sfb178 : Safe Z own_EL T176.vm h178 b178 := Safe.ext E178 Rb176.1 (Safe.new lo_b178)
  have V_b178 : Arv Z h178 b178 k178 .byte (0 : Int32) [] (.int (0 : Int32)) := (Arv.new A178 (by decide)).pad (pad_rep [] (.int (0 : Int32)) 0)
  have f181 := (f176_1.ext E178)
  -- pc 114: com/example/larkbridge/larkbridge/mcp/McpResourceContents.binary
  obtain ⟨_, _, ⟨T180, L180, k180, n180⟩, -, X180, hS180, hG180, ⟨Lc180, hQ180, l180, y180, z180, hC180⟩, st180⟩ := callSS X178 hx (y := y5) hw176 (mvT hZ176 (W 34 rfl)) (mvT hZ176 (W 35 rfl)) (mvT hZ176 (W 36 rfl)) (mvT hZ176 (W 37 rfl)) (by decide) (backOfSH (s := s) (W := 0) (rmmcb l Z a0 G1 hG [] b_176 .null b178 k178 (0 : Int32) ([] : List Value) h178 n0 Z179 O179 f181 Q178 V_b178 rfl (by decide)) hZ176 (W 37 rfl) (W 36 rfl) (by decide) (by decide) hEL R179.1) (g := (mkF m 114 #[.val (.int p0), .val (.int p1), .val (.int p2), .val (.int p3), .val (.ref b_176), .val (.int vm_), .val .null, .val (.int (0 : Int32)), .val (.ref b178), .unset, .unset, .unset, .unset, .unset, .unset, .unset, .unset, .unset, .unset, .unset] [(.ref b178), .null, (.ref b_176)])) rfl (by rw [hml]; rfl) (argsL := [(.ref b_176), .null, (.ref b178)]) (rest := []) (lenOf pd__Ljava_lang_String_Ljava_lang_String__B_Lcom_example_larkbridge_larkbridge_mcp_McpResourceContents_ rfl) rfl (by show 2 * 0 + _ ≤ _; exact Nat.le_of_eq rfl) (hb hby at_114) (fun _ _ => ⟨rfl, e178, (by decide : 7 + 4 ≤ _), (by decide : 12 + 24 ≤ _)⟩)
  dsimp only [Pt.U, Pt.locs, Pt.cells, Pt.slots] at X180 l180 y180 z180 st180 hQ180 hS180 hG180 hC180
  subst l180 y180 z180
  have hZ180 : Z.Warmed39 T180.vm := State.Warmed39.trans (t := s.setVm T176.vm) hZ176 hS180.1
  have hw180 : T180.vm.findClass "com/example/larkbridge/larkbridge/mcp/McpResourceContentsBinaryPinLaw" = some m.cls := by rw [hS180.1.alike.findClass]; exact hw176
  have hSn180 : s.Since T180.vm T180.heap.size := hSn176.trans hS180 (Nat.le_trans hk179 (by have q := hG180; rw [e178] at q; exact q))
  have X180 : Stand p l e _ (s.setVm T180.vm) m _ below meth c T180 _ _ _ := X180
  obtain ⟨b_180, c_180, rfl, N180q, K180, f180_0, f180_1, f180_2, f180_3, f180_4, f180_5, f180_6, f180_7, f180_8⟩ := hQ180
  have N180 := Fr.app N176 N180q
  have Z182 : n0 ≤ T180.heap.size := Nat.le_trans Z179 K180.1
  have K0_182 : Keep h0 T180.heap [] := K0_179.trans K180 all0
  have O182 : Old Z n0 T180.heap := O179.keep K180 all0
  have hkw180 : T180.heap.size ≤ T180.heap.size := Nat.le_refl _
  have sfw182_b178 : Safe Z own_EL T180.vm T180.heap b178 := hC180.safe Q178.lt sfb178
  have Rb180 : CHr Z own_EL s.vm h0 T180.vm T180.heap := R179.trans hC180
  have lo_b_180 : h178.size ≤ b_180 := f180_0
  have g_b_180 : n0 ≤ b_180 := Nat.le_trans Z179 lo_b_180
  have l0_b_180 : h0.size ≤ b_180 := Nat.le_trans K0_179.1 lo_b_180
  have lo_c_180 : h178.size ≤ c_180 := f180_1
  have g_c_180 : n0 ≤ c_180 := Nat.le_trans Z179 lo_c_180
  have l0_c_180 : h0.size ≤ c_180 := Nat.le_trans K0_179.1 lo_c_180
  obtain ⟨cq183, kq183, q183a, q183b, q183c⟩ := isOf hZ180 rfl f180_2
  -- pc 154: com/example/larkbridge/larkbridge/mcp/McpResourceContents.bytes
  obtain ⟨_, _, ⟨T183, L183, k183, n183⟩, -, X183, ⟨Lc183, hQ183, l183, y183, z183⟩, st183⟩ := X180.virtualBack hx (y := y6) (z := y6) hw180 (mvT hZ180 (W 69 rfl)) (mvT hZ180 (W 70 rfl)) (notFace_of_selects (args := #[]) (mvT hZ180 (W 72 rfl))) (mvT hZ180 (W 72 rfl)) (mvT hZ180 (W 71 rfl)) (by decide) (backOf (W := 0) (rmbyt l Z a0 G1 hG [] b_180 c_180 k178 (0 : Int32) ([] : List Value) T180.heap n0 Z182 O182 f180_8 f180_3 f180_4 (by decide)) hZ180 (W 73 rfl) (W 36 rfl) (by decide) (by decide)) q183a q183c (g := (mkF m 154 #[.val (.int p0), .val (.int p1), .val (.int p2), .val (.int p3), .val (.ref b_176), .val (.int vm_), .val .null, .val (.int (0 : Int32)), .val (.ref b178), .val (.ref b_180), .unset, .unset, .unset, .unset, .unset, .unset, .unset, .unset, .unset, .unset] [(.ref b_180)])) rfl (by rw [hml]; rfl) (Steps.refl _) (argsL := []) (rest := []) (lenOf pd____B rfl) rfl (by show 2 * 0 + _ ≤ _; exact Nat.le_of_eq rfl) (hb hby at_154) (fun _ _ => ⟨rfl, rfl, (by decide : 11 + 1 ≤ _), (by decide : 36 + 4 ≤ _)⟩)
  dsimp only [Pt.U, Pt.locs, Pt.cells, Pt.slots] at X183 l183 y183 z183 st183 hQ183
  subst l183 y183 z183
  obtain ⟨c_183, rfl, N183q, K183, f183_0, f183_1, f183_2⟩ := hQ183
  have N183 := Fr.app N180 N183q
  have Z184 : n0 ≤ T183.heap.size := Nat.le_trans Z182 K183.1
  have K0_184 : Keep h0 T183.heap [] := K0_182.trans K183 all0
  have O184 : Old Z n0 T183.heap := O182.keep K183 all0
  have R184 : CHr Z own_EL s.vm h0 T180.vm T183.heap := Rb180.trans (CHr.keep K183 sf0 Rb180.1)
  have hk184 : T180.heap.size ≤ T183.heap.size := Nat.le_trans hkw180 K183.1
  have sf184_b178 : Safe Z own_EL T180.vm T183.heap b178 := Safe.keep K183 sf0 Rb180.1 sfw182_b178
  have lo_c_183 : T180.heap.size ≤ c_183 := f183_0
  have g_c_183 : n0 ≤ c_183 := Nat.le_trans Z182 lo_c_183
  have l0_c_183 : h0.size ≤ c_183 := Nat.le_trans K0_182.1 lo_c_183
  have sfc183 : Safe Z own_EL T180.vm T183.heap c_183 := Safe.keep K183 sf0 Rb180.1 (Safe.new lo_c_183)
  -- pc 164: com/example/larkbridge/larkbridge/mcp/McpResourceContentsBinaryPinLaw.same
  obtain ⟨_, _, ⟨T185, L185, k185, n185⟩, -, X185, ⟨Lc185, hQ185, l185, y185, z185⟩, st185⟩ := Jvm.LawKit.callS X183 hx (y := y12) hw180 (mvT hZ180 (W 74 rfl)) (mvT hZ180 (W 75 rfl)) (mvT hZ180 (W 2 rfl)) (mvT hZ180 (W 76 rfl)) (by decide) (backOf (W := 0) (rmsame0 l Z a0 G1 hG [] c_183 p2 k178 T183.heap n0 Z184 O184 f183_2) hZ180 (W 76 rfl) (W 2 rfl) (by decide) (by decide)) (g := (mkF m 164 #[.val (.int p0), .val (.int p1), .val (.int p2), .val (.int p3), .val (.ref b_176), .val (.int vm_), .val .null, .val (.int (0 : Int32)), .val (.ref b178), .val (.ref b_180), .val (.ref c_183), .unset, .unset, .unset, .unset, .unset, .unset, .unset, .unset, .unset] [(.int p2), (.int (0 : Int32)), (.ref c_183)])) rfl (by rw [hml]; rfl) (argsL := [(.ref c_183), (.int (0 : Int32)), (.int p2)]) (rest := []) (lenOf pd___BII_Z rfl) rfl (by show 2 * 0 + _ ≤ _; exact Nat.le_of_eq rfl) (hb hby at_164) (fun _ _ => ⟨rfl, rfl, (by decide : 12 + 0 ≤ _), (by decide : 40 + 0 ≤ _)⟩)
  dsimp only [Pt.U, Pt.locs, Pt.cells, Pt.slots] at X185 l185 y185 z185 st185 hQ185
  subst l185 y185 z185
  obtain ⟨rfl, N185q, eq185⟩ := hQ185
  have N185 := Fr.app N183 N185q
  obtain ⟨clq186, Arq186, qaq186, Sq186, Nq186, Hq186, Gq186⟩ := id f183_2
  have f188 := (f180_8.keep K183 nin0)
  have f189 := (f180_3.keep K183)
  have f190 := (f180_4.keep K183 nin0)
  have f191 := (f180_2.keep K183)
  obtain ⟨cq187, kq187, q187a, q187b, q187c⟩ := isOf hZ180 eq185 f191
  -- pc 193: com/example/larkbridge/larkbridge/mcp/McpResourceContents.bytes
  obtain ⟨_, _, ⟨T187, L187, k187, n187⟩, -, X187, ⟨Lc187, hQ187, l187, y187, z187⟩, st187⟩ := X185.virtualBack hx (y := y6) (z := y6) hw180 (mvT hZ180 (W 69 rfl)) (mvT hZ180 (W 70 rfl)) (notFace_of_selects (args := #[]) (mvT hZ180 (W 72 rfl))) (mvT hZ180 (W 72 rfl)) (mvT hZ180 (W 71 rfl)) (by decide) (backOf (W := 0) (rmbyt l Z a0 G1 hG [] b_180 c_180 k178 (0 : Int32) ([] : List Value) T183.heap n0 Z184 O184 f188 f189 f190 (by decide)) hZ180 (W 73 rfl) (W 36 rfl) (by decide) (by decide)) q187a q187c (g := (mkF m 193 #[.val (.int p0), .val (.int p1), .val (.int p2), .val (.int p3), .val (.ref b_176), .val (.int vm_), .val .null, .val (.int (0 : Int32)), .val (.ref b178), .val (.ref b_180), .val (.ref c_183), .val (.int (1 : Int32)), .unset, .unset, .unset, .unset, .unset, .unset, .unset, .unset] [(.ref b_180)])) rfl (by rw [hml]; rfl) (Steps.refl _) (argsL := []) (rest := []) (lenOf pd____B rfl) rfl (by show 2 * 0 + _ ≤ _; exact Nat.le_of_eq rfl) (hb hby at_193) (fun _ _ => ⟨rfl, eq185, (by decide : 12 + 1 ≤ _), (by decide : 40 + 4 ≤ _)⟩)
  dsimp only [Pt.U, Pt.locs, Pt.cells, Pt.slots] at X187 l187 y187 z187 st187 hQ187
  subst l187 y187 z187
  obtain ⟨c_187, rfl, N187q, K187, f187_0, f187_1, f187_2⟩ := hQ187
  have N187 := Fr.app N185 N187q
  have Z192 : n0 ≤ T187.heap.size := Nat.le_trans Z184 K187.1
  have K0_192 : Keep h0 T187.heap [] := K0_184.trans K187 all0
  have O192 : Old Z n0 T187.heap := O184.keep K187 all0
  have R192 : CHr Z own_EL s.vm h0 T180.vm T187.heap := R184.trans (CHr.keep K187 sf0 R184.1)
  have hk192 : T180.heap.size ≤ T187.heap.size := Nat.le_trans hk184 K187.1
  have sf192_b178 : Safe Z own_EL T180.vm T187.heap b178 := Safe.keep K187 sf0 R184.1 sf184_b178
  have sf192_c_183 : Safe Z own_EL T180.vm T187.heap c_183 := Safe.keep K187 sf0 R184.1 sfc183
  have lo_c_187 : T183.heap.size ≤ c_187 := f187_0
  have g_c_187 : n0 ≤ c_187 := Nat.le_trans Z184 lo_c_187
  have l0_c_187 : h0.size ≤ c_187 := Nat.le_trans K0_184.1 lo_c_187
  have sfc187 : Safe Z own_EL T180.vm T187.heap c_187 := Safe.keep K187 sf0 R184.1 (Safe.new lo_c_187)
  -- pc 203: com/example/larkbridge/larkbridge/mcp/McpResourceContentsBinaryPinLaw.same
  obtain ⟨_, _, ⟨T193, L193, k193, n193⟩, -, X193, ⟨Lc193, hQ193, l193, y193, z193⟩, st193⟩ := Jvm.LawKit.callS X187 hx (y := y12) hw180 (mvT hZ180 (W 74 rfl)) (mvT hZ180 (W 75 rfl)) (mvT hZ180 (W 2 rfl)) (mvT hZ180 (W 76 rfl)) (by decide) (backOf (W := 0) (rmsame0 l Z a0 G1 hG [] c_187 p2 k178 T187.heap n0 Z192 O192 f187_2) hZ180 (W 76 rfl) (W 2 rfl) (by decide) (by decide)) (g := (mkF m 203 #[.val (.int p0), .val (.int p1), .val (.int p2), .val (.int p3), .val (.ref b_176), .val (.int vm_), .val .null, .val (.int (0 : Int32)), .val (.ref b178), .val (.ref b_180), .val (.ref c_183), .val (.int (1 : Int32)), .val (.ref c_187), .unset, .unset, .unset, .unset, .unset, .unset, .unset] [(.int p2), (.int (0 : Int32)), (.ref c_187)])) rfl (by rw [hml]; rfl) (argsL := [(.ref c_187), (.int (0 : Int32)), (.int p2)]) (rest := []) (lenOf pd___BII_Z rfl) rfl (by show 2 * 0 + _ ≤ _; exact Nat.le_of_eq rfl) (hb hby at_203) (fun _ _ => ⟨rfl, rfl, (by decide : 13 + 0 ≤ _), (by decide : 44 + 0 ≤ _)⟩)
  dsimp only [Pt.U, Pt.locs, Pt.cells, Pt.slots] at X193 l193 y193 z193 st193 hQ193
  subst l193 y193 z193
  obtain ⟨rfl, N193q, eq193⟩ := hQ193
  have N193 := Fr.app N187 N193q
  have f195 := ((f180_5.keep K183 nin0).keep K187 nin0)
  have f196 := (f191.keep K187)
  obtain ⟨cq194, kq194, q194a, q194b, q194c⟩ := isOf hZ180 eq193 f196
  -- pc 210: com/example/larkbridge/larkbridge/mcp/McpResourceContents.uri
  obtain ⟨_, _, ⟨T194, L194, k194, n194⟩, -, X194, ⟨Lc194, hQ194, l194, y194, z194⟩, st194⟩ := X193.virtualBack hx (y := y7) (z := y7) hw180 (mvT hZ180 (W 77 rfl)) (mvT hZ180 (W 78 rfl)) (notFace_of_selects (args := #[]) (mvT hZ180 (W 80 rfl))) (mvT hZ180 (W 80 rfl)) (mvT hZ180 (W 79 rfl)) (by decide) (backOf (W := 0) (rmG_McpResourceContents_uri l Z a0 G1 hG [] b_180 (.ref b_176) T187.heap n0 Z192 O192 f195 rfl) hZ180 (W 81 rfl) (W 36 rfl) (by decide) (by decide)) q194a q194c (g := (mkF m 210 #[.val (.int p0), .val (.int p1), .val (.int p2), .val (.int p3), .val (.ref b_176), .val (.int vm_), .val .null, .val (.int (0 : Int32)), .val (.ref b178), .val (.ref b_180), .val (.ref c_183), .val (.int (1 : Int32)), .val (.ref c_187), .val (.int (1 : Int32)), .unset, .unset, .unset, .unset, .unset, .unset] [(.ref b_180)])) rfl (by rw [hml]; rfl) (Steps.refl _) (argsL := []) (rest := []) (lenOf pd___Ljava_lang_String_ rfl) rfl (by show 2 * 0 + _ ≤ _; exact Nat.le_of_eq rfl) (hb hby at_210) (fun _ _ => ⟨rfl, eq193, (by decide : 13 + 0 ≤ _), (by decide : 44 + 0 ≤ _)⟩)
  dsimp only [Pt.U, Pt.locs, Pt.cells, Pt.slots] at X194 l194 y194 z194 st194 hQ194
  subst l194 y194 z194
  obtain ⟨rfl, N194q, eq194⟩ := hQ194
  have N194 := Fr.app N193 N194q
  have f198 := (((f181.keep K180).keep K183).keep K187)
  obtain ⟨cq197, kq197, q197a, q197b, q197c⟩ := isOf hZ180 eq194 f198
  -- pc 219: java/lang/String.equals
  obtain ⟨_, _, ⟨T197, L197, k197, n197⟩, -, X197, ⟨Lc197, hQ197, l197, y197, z197⟩, st197⟩ := X194.virtualBack hx (y := y11) (z := y11) hw180 (mvT hZ180 (W 82 rfl)) (mvT hZ180 (W 83 rfl)) (notFace_of_selects (args := #[]) (mvT hZ180 (W 85 rfl))) (mvT hZ180 (W 85 rfl)) (mvT hZ180 (W 84 rfl)) (by decide) (backOf (W := 0) (rmeqs l Z a0 G1 hG [] b_176 T187.heap n0 Z192 O192) hZ180 (W 86 rfl) (W 6 rfl) (by decide) (by decide)) q197a q197c (g := (mkF m 219 #[.val (.int p0), .val (.int p1), .val (.int p2), .val (.int p3), .val (.ref b_176), .val (.int vm_), .val .null, .val (.int (0 : Int32)), .val (.ref b178), .val (.ref b_180), .val (.ref c_183), .val (.int (1 : Int32)), .val (.ref c_187), .val (.int (1 : Int32)), .val (.ref b_176), .unset, .unset, .unset, .unset, .unset] [(.ref b_176), (.ref b_176)])) rfl (by rw [hml]; rfl) (Steps.refl _) (argsL := [(.ref b_176)]) (rest := []) (lenOf pd__Ljava_lang_Object__Z rfl) rfl (by show 2 * 0 + _ ≤ _; exact Nat.le_of_eq rfl) (hb hby at_219) (fun _ _ => ⟨rfl, eq194, (by decide : 13 + 0 ≤ _), (by decide : 44 + 0 ≤ _)⟩)
  dsimp only [Pt.U, Pt.locs, Pt.cells, Pt.slots] at X197 l197 y197 z197 st197 hQ197
  subst l197 y197 z197
  obtain ⟨rfl, N197q, eq197⟩ := hQ197
  have N197 := Fr.app N194 N197q
  have f200 := ((f180_6.keep K183 nin0).keep K187 nin0)
  obtain ⟨cq199, kq199, q199a, q199b, q199c⟩ := isOf hZ180 eq197 f196
  -- pc 226: com/example/larkbridge/larkbridge/mcp/McpResourceContents.mimeType
  obtain ⟨_, _, ⟨T199, L199, k199, n199⟩, -, X199, ⟨Lc199, hQ199, l199, y199, z199⟩, st199⟩ := X197.virtualBack hx (y := y8) (z := y8) hw180 (mvT hZ180 (W 87 rfl)) (mvT hZ180 (W 88 rfl)) (notFace_of_selects (args := #[]) (mvT hZ180 (W 90 rfl))) (mvT hZ180 (W 90 rfl)) (mvT hZ180 (W 89 rfl)) (by decide) (backOf (W := 0) (rmG_McpResourceContents_mimeType l Z a0 G1 hG [] b_180 .null T187.heap n0 Z192 O192 f200 rfl) hZ180 (W 91 rfl) (W 36 rfl) (by decide) (by decide)) q199a q199c (g := (mkF m 226 #[.val (.int p0), .val (.int p1), .val (.int p2), .val (.int p3), .val (.ref b_176), .val (.int vm_), .val .null, .val (.int (0 : Int32)), .val (.ref b178), .val (.ref b_180), .val (.ref c_183), .val (.int (1 : Int32)), .val (.ref c_187), .val (.int (1 : Int32)), .val (.ref b_176), .val (.int (1 : Int32)), .unset, .unset, .unset, .unset] [(.ref b_180)])) rfl (by rw [hml]; rfl) (Steps.refl _) (argsL := []) (rest := []) (lenOf pd___Ljava_lang_String_ rfl) rfl (by show 2 * 0 + _ ≤ _; exact Nat.le_of_eq rfl) (hb hby at_226) (fun _ _ => ⟨rfl, eq197, (by decide : 13 + 0 ≤ _), (by decide : 44 + 0 ≤ _)⟩)
  dsimp only [Pt.U, Pt.locs, Pt.cells, Pt.slots] at X199 l199 y199 z199 st199 hQ199
  subst l199 y199 z199
  obtain ⟨rfl, N199q, eq199⟩ := hQ199
  have N199 := Fr.app N197 N199q
  have f202 := ((f180_7.keep K183 nin0).keep K187 nin0)
  obtain ⟨cq201, kq201, q201a, q201b, q201c⟩ := isOf hZ180 eq199 f196
  -- pc 260: com/example/larkbridge/larkbridge/mcp/McpResourceContents.isText
  obtain ⟨_, _, ⟨T201, L201, k201, n201⟩, -, X201, ⟨Lc201, hQ201, l201, y201, z201⟩, st201⟩ := X199.virtualBack hx (y := y9) (z := y9) hw180 (mvT hZ180 (W 92 rfl)) (mvT hZ180 (W 93 rfl)) (notFace_of_selects (args := #[]) (mvT hZ180 (W 95 rfl))) (mvT hZ180 (W 95 rfl)) (mvT hZ180 (W 94 rfl)) (by decide) (backOf (W := 0) (rmist l Z a0 G1 hG [] b_180 T187.heap n0 Z192 O192 f202) hZ180 (W 96 rfl) (W 36 rfl) (by decide) (by decide)) q201a q201c (g := (mkF m 260 #[.val (.int p0), .val (.int p1), .val (.int p2), .val (.int p3), .val (.ref b_176), .val (.int vm_), .val .null, .val (.int (0 : Int32)), .val (.ref b178), .val (.ref b_180), .val (.ref c_183), .val (.int (1 : Int32)), .val (.ref c_187), .val (.int (1 : Int32)), .val (.ref b_176), .val (.int (1 : Int32)), .val .null, .val (.int (1 : Int32)), .unset, .unset] [(.ref b_180)])) rfl (by rw [hml]; rfl) (Steps.refl _) (argsL := []) (rest := []) (lenOf pd___Z rfl) rfl (by show 2 * 0 + _ ≤ _; exact Nat.le_of_eq rfl) (hb hby at_260) (fun _ _ => ⟨rfl, eq199, (by decide : 13 + 0 ≤ _), (by decide : 44 + 0 ≤ _)⟩)
  dsimp only [Pt.U, Pt.locs, Pt.cells, Pt.slots] at X201 l201 y201 z201 st201 hQ201
  subst l201 y201 z201
  obtain ⟨rfl, N201q, eq201⟩ := hQ201
  have N201 := Fr.app N199 N201q
  obtain ⟨cq203, kq203, q203a, q203b, q203c⟩ := isOf hZ180 eq201 f196
  -- pc 275: com/example/larkbridge/larkbridge/mcp/McpResourceContents.text
  obtain ⟨_, _, ⟨T203, L203, k203, n203⟩, -, X203, ⟨Lc203, hQ203, l203, y203, z203⟩, st203⟩ := X201.virtualBack hx (y := y10) (z := y10) hw180 (mvT hZ180 (W 97 rfl)) (mvT hZ180 (W 98 rfl)) (notFace_of_selects (args := #[]) (mvT hZ180 (W 100 rfl))) (mvT hZ180 (W 100 rfl)) (mvT hZ180 (W 99 rfl)) (by decide) (backOf (W := 0) (rmtxt l Z a0 G1 hG [] b_180 T187.heap n0 Z192 O192 f202) hZ180 (W 101 rfl) (W 36 rfl) (by decide) (by decide)) q203a q203c (g := (mkF m 275 #[.val (.int p0), .val (.int p1), .val (.int p2), .val (.int p3), .val (.ref b_176), .val (.int vm_), .val .null, .val (.int (0 : Int32)), .val (.ref b178), .val (.ref b_180), .val (.ref c_183), .val (.int (1 : Int32)), .val (.ref c_187), .val (.int (1 : Int32)), .val (.ref b_176), .val (.int (1 : Int32)), .val .null, .val (.int (1 : Int32)), .val (.int (1 : Int32)), .unset] [(.ref b_180)])) rfl (by rw [hml]; rfl) (Steps.refl _) (argsL := []) (rest := []) (lenOf pd___Ljava_lang_String_ rfl) rfl (by show 2 * 0 + _ ≤ _; exact Nat.le_of_eq rfl) (hb hby at_275) (fun _ _ => ⟨rfl, eq201, (by decide : 13 + 0 ≤ _), (by decide : 44 + 0 ≤ _)⟩)
  dsimp only [Pt.U, Pt.locs, Pt.cells, Pt.slots] at X203 l203 y203 z203 st203 hQ203
  subst l203 y203 z203
  obtain ⟨rfl, N203q, eq203⟩ := hQ203
  have N203 := Fr.app N201 N203q
  obtain ⟨fs, hr, hrun, hended, hend⟩ := Jvm.Stand.leaveW (v := some (.int (1 : Int32))) X203 hSn180 (by rw [eq203]; exact hk192) (fun h => by rw [Bd.returns] at h; cases h)
  have hFin := R192.trans (CHv.at X203 hZ180 hEL R192.1)
  refine ⟨_, _, pre0 _ ?_, hrun, hended, _, _, rfl, ?_, ?_, own_mono hend (Nat.le_of_ble_eq_true rfl) (Nat.le_of_ble_eq_true rfl)⟩
  · show Steps p.tables e below (s₁.setTop (mkF m 0 #[.val (.int p0), .val (.int p1), .val (.int p2), .val (.int p3), .unset, .unset, .unset, .unset, .unset, .unset, .unset, .unset, .unset, .unset, .unset, .unset, .unset, .unset, .unset, .unset] [])) _
    refine XS.iloadN X0.here hx rfl (hb hby at_0) rfl ?_
    refine XS.iloadN X0.here hx rfl (hb hby at_1) rfl ?_
    refine XS.iconst X0.here hx rfl (hb hby at_2) ?_
    refine XS.iand X0.here hx rfl (hb hby at_3) rfl ?_
    refine st176.trans ?_
    show Steps p.tables e below (T176.setTop (mkF m 7 #[.val (.int p0), .val (.int p1), .val (.int p2), .val (.int p3), .unset, .unset, .unset, .unset, .unset, .unset, .unset, .unset, .unset, .unset, .unset, .unset, .unset, .unset, .unset, .unset] [(.ref b_176)])) _
    refine XS.astore X176.here hx rfl (hb hby at_7) rfl rfl (l' := #[.val (.int p0), .val (.int p1), .val (.int p2), .val (.int p3), .val (.ref b_176), .unset, .unset, .unset, .unset, .unset, .unset, .unset, .unset, .unset, .unset, .unset, .unset, .unset, .unset, .unset]) rfl ?_
    refine XS.iloadN X176.here hx rfl (hb hby at_9) rfl ?_
    refine XS.iconst X176.here hx rfl (hb hby at_10) ?_
    refine XS.iushr X176.here hx rfl (hb hby at_11) rfl ?_
    refine XS.bipush X176.here hx rfl (hb hby at_12) ?_
    refine XS.iand X176.here hx rfl (hb hby at_14) rfl ?_
    show Steps p.tables e below (T176.setTop (mkF m 15 #[.val (.int p0), .val (.int p1), .val (.int p2), .val (.int p3), .val (.ref b_176), .unset, .unset, .unset, .unset, .unset, .unset, .unset, .unset, .unset, .unset, .unset, .unset, .unset, .unset, .unset] [(.int (((p3.toUInt32 >>> ((2 : Int32) &&& 31).toUInt32).toInt32) &&& (7 : Int32)))])) _
    rw [← hvm]
    show Steps p.tables e below (T176.setTop (mkF m 15 #[.val (.int p0), .val (.int p1), .val (.int p2), .val (.int p3), .val (.ref b_176), .unset, .unset, .unset, .unset, .unset, .unset, .unset, .unset, .unset, .unset, .unset, .unset, .unset, .unset, .unset] [(.int vm_)])) _
    refine XS.istore X176.here hx rfl (hb hby at_15) rfl (l' := #[.val (.int p0), .val (.int p1), .val (.int p2), .val (.int p3), .val (.ref b_176), .val (.int vm_), .unset, .unset, .unset, .unset, .unset, .unset, .unset, .unset, .unset, .unset, .unset, .unset, .unset, .unset]) rfl ?_
    refine XS.iload X176.here hx rfl (hb hby at_17) rfl ?_
    refine XS.ifNo X176.here hx rfl (hb hby at_19) rfl ((if0 _ _).trans (teq ((by rw [hvm]; exact hm) : vm_ = (0 : Int32))).2) ?_
    refine XS.aconstNull X176.here hx rfl (hb hby at_22) ?_
    refine XS.goto X176.here hx rfl (pc0 := 23) (pc' := 34) rfl (hb hby at_23) (by decide) (by decide) ?_
    refine XS.astore X176.here hx rfl (hb hby at_34) rfl rfl (l' := #[.val (.int p0), .val (.int p1), .val (.int p2), .val (.int p3), .val (.ref b_176), .val (.int vm_), .val .null, .unset, .unset, .unset, .unset, .unset, .unset, .unset, .unset, .unset, .unset, .unset, .unset, .unset]) rfl ?_
    refine XS.iloadN X176.here hx rfl (hb hby at_36) rfl ?_
    refine XS.iconst X176.here hx rfl (hb hby at_37) ?_
    show Steps p.tables e below (T176.setTop (mkF m 38 #[.val (.int p0), .val (.int p1), .val (.int p2), .val (.int p3), .val (.ref b_176), .val (.int vm_), .val .null, .unset, .unset, .unset, .unset, .unset, .unset, .unset, .unset, .unset, .unset, .unset, .unset, .unset] [(.int (5 : Int32)), (.int p3)])) _
    refine XS.iushr X176.here hx rfl (hb hby at_38) rfl ?_
    refine XS.bipush X176.here hx rfl (hb hby at_39) ?_
    refine XS.iand X176.here hx rfl (hb hby at_41) rfl ?_
    refine XS.iconst X176.here hx rfl (hb hby at_42) ?_
    refine iremM (g := (mkF m 43 #[.val (.int p0), .val (.int p1), .val (.int p2), .val (.int p3), .val (.ref b_176), .val (.int vm_), .val .null, .unset, .unset, .unset, .unset, .unset, .unset, .unset, .unset, .unset, .unset, .unset, .unset, .unset] [(.int (5 : Int32)), (.int (((p3.toUInt32 >>> ((5 : Int32) &&& 31).toUInt32).toInt32) &&& (7 : Int32)))])) X176 hx rfl (hb hby at_43) rfl (by decide) ?_
    show Steps p.tables e below (T176.setTop (mkF m 44 #[.val (.int p0), .val (.int p1), .val (.int p2), .val (.int p3), .val (.ref b_176), .val (.int vm_), .val .null, .unset, .unset, .unset, .unset, .unset, .unset, .unset, .unset, .unset, .unset, .unset, .unset, .unset] [(.int ((((p3.toUInt32 >>> ((5 : Int32) &&& 31).toUInt32).toInt32) &&& (7 : Int32)) % (5 : Int32)))])) _
    rw [hn]
    show Steps p.tables e below (T176.setTop (mkF m 44 #[.val (.int p0), .val (.int p1), .val (.int p2), .val (.int p3), .val (.ref b_176), .val (.int vm_), .val .null, .unset, .unset, .unset, .unset, .unset, .unset, .unset, .unset, .unset, .unset, .unset, .unset, .unset] [(.int (0 : Int32))])) _
    refine XS.istore X176.here hx rfl (hb hby at_44) rfl (l' := #[.val (.int p0), .val (.int p1), .val (.int p2), .val (.int p3), .val (.ref b_176), .val (.int vm_), .val .null, .val (.int (0 : Int32)), .unset, .unset, .unset, .unset, .unset, .unset, .unset, .unset, .unset, .unset, .unset, .unset]) rfl ?_
    refine XS.iload X176.here hx rfl (hb hby at_46) rfl ?_
    refine st178 _ ?_
    show Steps p.tables e below (T178.setTop (mkF m 50 #[.val (.int p0), .val (.int p1), .val (.int p2), .val (.int p3), .val (.ref b_176), .val (.int vm_), .val .null, .val (.int (0 : Int32)), .unset, .unset, .unset, .unset, .unset, .unset, .unset, .unset, .unset, .unset, .unset, .unset] [(.ref b178)])) _
    refine XS.astore X178.here hx rfl (hb hby at_50) rfl rfl (l' := #[.val (.int p0), .val (.int p1), .val (.int p2), .val (.int p3), .val (.ref b_176), .val (.int vm_), .val .null, .val (.int (0 : Int32)), .val (.ref b178), .unset, .unset, .unset, .unset, .unset, .unset, .unset, .unset, .unset, .unset, .unset]) rfl ?_
    refine XS.iload X178.here hx rfl (hb hby at_52) rfl ?_
    refine XS.ifYes X178.here hx rfl (pc0 := 54) (pc' := 63) rfl (hb hby at_54) rfl ((if0 _ _).trans (flt (by decide : ¬ ((0 : Int32) < (0 : Int32)))).2.2.2) (by decide) (by decide) ?_
    refine XS.iload X178.here hx rfl (hb hby at_63) rfl ?_
    refine XS.iconst X178.here hx rfl (hb hby at_65) ?_
    refine XS.icmpYes X178.here hx rfl (pc0 := 66) (pc' := 78) rfl (hb hby at_66) rfl (flt (by decide : ¬ ((1 : Int32) < (0 : Int32)))).2.2.2 (by decide) (by decide) ?_
    refine XS.iload X178.here hx rfl (hb hby at_78) rfl ?_
    refine XS.iconst X178.here hx rfl (hb hby at_80) ?_
    show Steps p.tables e below (T178.setTop (mkF m 81 #[.val (.int p0), .val (.int p1), .val (.int p2), .val (.int p3), .val (.ref b_176), .val (.int vm_), .val .null, .val (.int (0 : Int32)), .val (.ref b178), .unset, .unset, .unset, .unset, .unset, .unset, .unset, .unset, .unset, .unset, .unset] [(.int (2 : Int32)), (.int (0 : Int32))])) _
    refine XS.icmpYes X178.here hx rfl (pc0 := 81) (pc' := 93) rfl (hb hby at_81) rfl (flt (by decide : ¬ ((2 : Int32) < (0 : Int32)))).2.2.2 (by decide) (by decide) ?_
    refine XS.iload X178.here hx rfl (hb hby at_93) rfl ?_
    refine XS.iconst X178.here hx rfl (hb hby at_95) ?_
    refine XS.icmpYes X178.here hx rfl (pc0 := 96) (pc' := 108) rfl (hb hby at_96) rfl (flt (by decide : ¬ ((3 : Int32) < (0 : Int32)))).2.2.2 (by decide) (by decide) ?_
    refine XS.aload X178.here hx rfl (hb hby at_108) rfl rfl ?_
    refine XS.aload X178.here hx rfl (hb hby at_110) rfl rfl ?_
    refine XS.aload X178.here hx rfl (hb hby at_112) rfl rfl ?_
    refine st180.trans ?_
    show Steps p.tables e below (T180.setTop (mkF m 117 #[.val (.int p0), .val (.int p1), .val (.int p2), .val (.int p3), .val (.ref b_176), .val (.int vm_), .val .null, .val (.int (0 : Int32)), .val (.ref b178), .unset, .unset, .unset, .unset, .unset, .unset, .unset, .unset, .unset, .unset, .unset] [(.ref b_180)])) _
    refine XS.astore X180.here hx rfl (hb hby at_117) rfl rfl (l' := #[.val (.int p0), .val (.int p1), .val (.int p2), .val (.int p3), .val (.ref b_176), .val (.int vm_), .val .null, .val (.int (0 : Int32)), .val (.ref b178), .val (.ref b_180), .unset, .unset, .unset, .unset, .unset, .unset, .unset, .unset, .unset, .unset]) rfl ?_
    refine XS.iload X180.here hx rfl (hb hby at_119) rfl ?_
    refine XS.ifYes X180.here hx rfl (pc0 := 121) (pc' := 135) rfl (hb hby at_121) rfl ((if0 _ _).trans (flt (by decide : ¬ ((0 : Int32) < (0 : Int32)))).2.2.2) (by decide) (by decide) ?_
    refine XS.iload X180.here hx rfl (hb hby at_135) rfl ?_
    refine XS.iconst X180.here hx rfl (hb hby at_137) ?_
    refine XS.icmpYes X180.here hx rfl (pc0 := 138) (pc' := 152) rfl (hb hby at_138) rfl (flt (by decide : ¬ ((3 : Int32) < (0 : Int32)))).2.2.2 (by decide) (by decide) ?_
    refine XS.aload X180.here hx rfl (hb hby at_152) rfl rfl ?_
    refine st183.trans ?_
    show Steps p.tables e below (T183.setTop (mkF m 157 #[.val (.int p0), .val (.int p1), .val (.int p2), .val (.int p3), .val (.ref b_176), .val (.int vm_), .val .null, .val (.int (0 : Int32)), .val (.ref b178), .val (.ref b_180), .unset, .unset, .unset, .unset, .unset, .unset, .unset, .unset, .unset, .unset] [(.ref c_183)])) _
    refine XS.astore X183.here hx rfl (hb hby at_157) rfl rfl (l' := #[.val (.int p0), .val (.int p1), .val (.int p2), .val (.int p3), .val (.ref b_176), .val (.int vm_), .val .null, .val (.int (0 : Int32)), .val (.ref b178), .val (.ref b_180), .val (.ref c_183), .unset, .unset, .unset, .unset, .unset, .unset, .unset, .unset, .unset]) rfl ?_
    refine XS.aload X183.here hx rfl (hb hby at_159) rfl rfl ?_
    refine XS.iload X183.here hx rfl (hb hby at_161) rfl ?_
    refine XS.iloadN X183.here hx rfl (hb hby at_163) rfl ?_
    refine st185 _ ?_
    show Steps p.tables e below (T185.setTop (mkF m 167 #[.val (.int p0), .val (.int p1), .val (.int p2), .val (.int p3), .val (.ref b_176), .val (.int vm_), .val .null, .val (.int (0 : Int32)), .val (.ref b178), .val (.ref b_180), .val (.ref c_183), .unset, .unset, .unset, .unset, .unset, .unset, .unset, .unset, .unset] [(.int (1 : Int32))])) _
    refine XS.istore X185.here hx rfl (hb hby at_167) rfl (l' := #[.val (.int p0), .val (.int p1), .val (.int p2), .val (.int p3), .val (.ref b_176), .val (.int vm_), .val .null, .val (.int (0 : Int32)), .val (.ref b178), .val (.ref b_180), .val (.ref c_183), .val (.int (1 : Int32)), .unset, .unset, .unset, .unset, .unset, .unset, .unset, .unset]) rfl ?_
    refine XS.aload X185.here hx rfl (hb hby at_169) rfl rfl ?_
    refine XS.ifnullNo X185.here hx rfl (hb hby at_171) rfl ?_
    refine XS.aload X185.here hx rfl (hb hby at_174) rfl rfl ?_
    refine X185.arraylength hx (own_cell eq185 Arq186.1) (State.isArrayOf_alike hZ180.alike Arq186.2.1) (g := (mkF m 176 #[.val (.int p0), .val (.int p1), .val (.int p2), .val (.int p3), .val (.ref b_176), .val (.int vm_), .val .null, .val (.int (0 : Int32)), .val (.ref b178), .val (.ref b_180), .val (.ref c_183), .val (.int (1 : Int32)), .unset, .unset, .unset, .unset, .unset, .unset, .unset, .unset] [(.ref c_183)])) rfl rfl (hb hby at_176) _ ?_
    rw [len_of Sq186 Nq186]
    refine XS.ifYes X185.here hx rfl (pc0 := 177) (pc' := 191) rfl (hb hby at_177) rfl ((if0 _ _).trans (flt (by decide : ¬ ((0 : Int32) < (0 : Int32)))).2.2.2) (by decide) (by decide) ?_
    refine XS.aload X185.here hx rfl (hb hby at_191) rfl rfl ?_
    refine st187.trans ?_
    show Steps p.tables e below (T187.setTop (mkF m 196 #[.val (.int p0), .val (.int p1), .val (.int p2), .val (.int p3), .val (.ref b_176), .val (.int vm_), .val .null, .val (.int (0 : Int32)), .val (.ref b178), .val (.ref b_180), .val (.ref c_183), .val (.int (1 : Int32)), .unset, .unset, .unset, .unset, .unset, .unset, .unset, .unset] [(.ref c_187)])) _
    refine XS.astore X187.here hx rfl (hb hby at_196) rfl rfl (l' := #[.val (.int p0), .val (.int p1), .val (.int p2), .val (.int p3), .val (.ref b_176), .val (.int vm_), .val .null, .val (.int (0 : Int32)), .val (.ref b178), .val (.ref b_180), .val (.ref c_183), .val (.int (1 : Int32)), .val (.ref c_187), .unset, .unset, .unset, .unset, .unset, .unset, .unset]) rfl ?_
    refine XS.aload X187.here hx rfl (hb hby at_198) rfl rfl ?_
    refine XS.iload X187.here hx rfl (hb hby at_200) rfl ?_
    refine XS.iloadN X187.here hx rfl (hb hby at_202) rfl ?_
    refine st193 _ ?_
    show Steps p.tables e below (T193.setTop (mkF m 206 #[.val (.int p0), .val (.int p1), .val (.int p2), .val (.int p3), .val (.ref b_176), .val (.int vm_), .val .null, .val (.int (0 : Int32)), .val (.ref b178), .val (.ref b_180), .val (.ref c_183), .val (.int (1 : Int32)), .val (.ref c_187), .unset, .unset, .unset, .unset, .unset, .unset, .unset] [(.int (1 : Int32))])) _
    refine XS.istore X193.here hx rfl (hb hby at_206) rfl (l' := #[.val (.int p0), .val (.int p1), .val (.int p2), .val (.int p3), .val (.ref b_176), .val (.int vm_), .val .null, .val (.int (0 : Int32)), .val (.ref b178), .val (.ref b_180), .val (.ref c_183), .val (.int (1 : Int32)), .val (.ref c_187), .val (.int (1 : Int32)), .unset, .unset, .unset, .unset, .unset, .unset]) rfl ?_
    refine XS.aload X193.here hx rfl (hb hby at_208) rfl rfl ?_
    refine st194.trans ?_
    show Steps p.tables e below (T194.setTop (mkF m 213 #[.val (.int p0), .val (.int p1), .val (.int p2), .val (.int p3), .val (.ref b_176), .val (.int vm_), .val .null, .val (.int (0 : Int32)), .val (.ref b178), .val (.ref b_180), .val (.ref c_183), .val (.int (1 : Int32)), .val (.ref c_187), .val (.int (1 : Int32)), .unset, .unset, .unset, .unset, .unset, .unset] [(.ref b_176)])) _
    refine XS.astore X194.here hx rfl (hb hby at_213) rfl rfl (l' := #[.val (.int p0), .val (.int p1), .val (.int p2), .val (.int p3), .val (.ref b_176), .val (.int vm_), .val .null, .val (.int (0 : Int32)), .val (.ref b178), .val (.ref b_180), .val (.ref c_183), .val (.int (1 : Int32)), .val (.ref c_187), .val (.int (1 : Int32)), .val (.ref b_176), .unset, .unset, .unset, .unset, .unset]) rfl ?_
    refine XS.aload X194.here hx rfl (hb hby at_215) rfl rfl ?_
    refine XS.aload X194.here hx rfl (hb hby at_217) rfl rfl ?_
    refine st197.trans ?_
    show Steps p.tables e below (T197.setTop (mkF m 222 #[.val (.int p0), .val (.int p1), .val (.int p2), .val (.int p3), .val (.ref b_176), .val (.int vm_), .val .null, .val (.int (0 : Int32)), .val (.ref b178), .val (.ref b_180), .val (.ref c_183), .val (.int (1 : Int32)), .val (.ref c_187), .val (.int (1 : Int32)), .val (.ref b_176), .unset, .unset, .unset, .unset, .unset] [(.int (1 : Int32))])) _
    refine XS.istore X197.here hx rfl (hb hby at_222) rfl (l' := #[.val (.int p0), .val (.int p1), .val (.int p2), .val (.int p3), .val (.ref b_176), .val (.int vm_), .val .null, .val (.int (0 : Int32)), .val (.ref b178), .val (.ref b_180), .val (.ref c_183), .val (.int (1 : Int32)), .val (.ref c_187), .val (.int (1 : Int32)), .val (.ref b_176), .val (.int (1 : Int32)), .unset, .unset, .unset, .unset]) rfl ?_
    refine XS.aload X197.here hx rfl (hb hby at_224) rfl rfl ?_
    refine st199.trans ?_
    show Steps p.tables e below (T199.setTop (mkF m 229 #[.val (.int p0), .val (.int p1), .val (.int p2), .val (.int p3), .val (.ref b_176), .val (.int vm_), .val .null, .val (.int (0 : Int32)), .val (.ref b178), .val (.ref b_180), .val (.ref c_183), .val (.int (1 : Int32)), .val (.ref c_187), .val (.int (1 : Int32)), .val (.ref b_176), .val (.int (1 : Int32)), .unset, .unset, .unset, .unset] [.null])) _
    refine XS.astore X199.here hx rfl (hb hby at_229) rfl rfl (l' := #[.val (.int p0), .val (.int p1), .val (.int p2), .val (.int p3), .val (.ref b_176), .val (.int vm_), .val .null, .val (.int (0 : Int32)), .val (.ref b178), .val (.ref b_180), .val (.ref c_183), .val (.int (1 : Int32)), .val (.ref c_187), .val (.int (1 : Int32)), .val (.ref b_176), .val (.int (1 : Int32)), .val .null, .unset, .unset, .unset]) rfl ?_
    refine XS.aload X199.here hx rfl (hb hby at_231) rfl rfl ?_
    refine XS.ifnonnullNo X199.here hx rfl (hb hby at_233) rfl ?_
    refine XS.aload X199.here hx rfl (hb hby at_236) rfl rfl ?_
    refine XS.ifnonnullNo X199.here hx rfl (hb hby at_238) rfl ?_
    refine XS.iconst X199.here hx rfl (hb hby at_241) ?_
    refine XS.goto X199.here hx rfl (pc0 := 242) (pc' := 256) rfl (hb hby at_242) (by decide) (by decide) ?_
    refine XS.istore X199.here hx rfl (hb hby at_256) rfl (l' := #[.val (.int p0), .val (.int p1), .val (.int p2), .val (.int p3), .val (.ref b_176), .val (.int vm_), .val .null, .val (.int (0 : Int32)), .val (.ref b178), .val (.ref b_180), .val (.ref c_183), .val (.int (1 : Int32)), .val (.ref c_187), .val (.int (1 : Int32)), .val (.ref b_176), .val (.int (1 : Int32)), .val .null, .val (.int (1 : Int32)), .unset, .unset]) rfl ?_
    show Steps p.tables e below (T199.setTop (mkF m 258 #[.val (.int p0), .val (.int p1), .val (.int p2), .val (.int p3), .val (.ref b_176), .val (.int vm_), .val .null, .val (.int (0 : Int32)), .val (.ref b178), .val (.ref b_180), .val (.ref c_183), .val (.int (1 : Int32)), .val (.ref c_187), .val (.int (1 : Int32)), .val (.ref b_176), .val (.int (1 : Int32)), .val .null, .val (.int (1 : Int32)), .unset, .unset] [])) _
    refine XS.aload X199.here hx rfl (hb hby at_258) rfl rfl ?_
    refine st201.trans ?_
    show Steps p.tables e below (T201.setTop (mkF m 263 #[.val (.int p0), .val (.int p1), .val (.int p2), .val (.int p3), .val (.ref b_176), .val (.int vm_), .val .null, .val (.int (0 : Int32)), .val (.ref b178), .val (.ref b_180), .val (.ref c_183), .val (.int (1 : Int32)), .val (.ref c_187), .val (.int (1 : Int32)), .val (.ref b_176), .val (.int (1 : Int32)), .val .null, .val (.int (1 : Int32)), .unset, .unset] [(.int (0 : Int32))])) _
    refine XS.ifNo X201.here hx rfl (hb hby at_263) rfl ((if0 _ _).trans (teq (by decide : (0 : Int32) = (0 : Int32))).2) ?_
    refine XS.iconst X201.here hx rfl (hb hby at_266) ?_
    refine XS.goto X201.here hx rfl (pc0 := 267) (pc' := 271) rfl (hb hby at_267) (by decide) (by decide) ?_
    refine XS.istore X201.here hx rfl (hb hby at_271) rfl (l' := #[.val (.int p0), .val (.int p1), .val (.int p2), .val (.int p3), .val (.ref b_176), .val (.int vm_), .val .null, .val (.int (0 : Int32)), .val (.ref b178), .val (.ref b_180), .val (.ref c_183), .val (.int (1 : Int32)), .val (.ref c_187), .val (.int (1 : Int32)), .val (.ref b_176), .val (.int (1 : Int32)), .val .null, .val (.int (1 : Int32)), .val (.int (1 : Int32)), .unset]) rfl ?_
    refine XS.aload X201.here hx rfl (hb hby at_273) rfl rfl ?_
    refine st203.trans ?_
    show Steps p.tables e below (T203.setTop (mkF m 278 #[.val (.int p0), .val (.int p1), .val (.int p2), .val (.int p3), .val (.ref b_176), .val (.int vm_), .val .null, .val (.int (0 : Int32)), .val (.ref b178), .val (.ref b_180), .val (.ref c_183), .val (.int (1 : Int32)), .val (.ref c_187), .val (.int (1 : Int32)), .val (.ref b_176), .val (.int (1 : Int32)), .val .null, .val (.int (1 : Int32)), .val (.int (1 : Int32)), .unset] [.null])) _
    refine XS.ifnonnullNo X203.here hx rfl (hb hby at_278) rfl ?_
    refine XS.iconst X203.here hx rfl (hb hby at_281) ?_
    refine XS.goto X203.here hx rfl (pc0 := 282) (pc' := 286) rfl (hb hby at_282) (by decide) (by decide) ?_
    refine XS.istore X203.here hx rfl (hb hby at_286) rfl (l' := #[.val (.int p0), .val (.int p1), .val (.int p2), .val (.int p3), .val (.ref b_176), .val (.int vm_), .val .null, .val (.int (0 : Int32)), .val (.ref b178), .val (.ref b_180), .val (.ref c_183), .val (.int (1 : Int32)), .val (.ref c_187), .val (.int (1 : Int32)), .val (.ref b_176), .val (.int (1 : Int32)), .val .null, .val (.int (1 : Int32)), .val (.int (1 : Int32)), .val (.int (1 : Int32))]) rfl ?_
    refine XS.iload X203.here hx rfl (hb hby at_288) rfl ?_
    refine XS.ifNo X203.here hx rfl (hb hby at_290) rfl ((if0 _ _).trans (feq (by decide : ¬ ((1 : Int32) = (0 : Int32)))).1) ?_
    refine XS.iload X203.here hx rfl (hb hby at_293) rfl ?_
    refine XS.ifNo X203.here hx rfl (hb hby at_295) rfl ((if0 _ _).trans (feq (by decide : ¬ ((1 : Int32) = (0 : Int32)))).1) ?_
    show Steps p.tables e below (T203.setTop (mkF m 298 #[.val (.int p0), .val (.int p1), .val (.int p2), .val (.int p3), .val (.ref b_176), .val (.int vm_), .val .null, .val (.int (0 : Int32)), .val (.ref b178), .val (.ref b_180), .val (.ref c_183), .val (.int (1 : Int32)), .val (.ref c_187), .val (.int (1 : Int32)), .val (.ref b_176), .val (.int (1 : Int32)), .val .null, .val (.int (1 : Int32)), .val (.int (1 : Int32)), .val (.int (1 : Int32))] [])) _
    refine XS.iload X203.here hx rfl (hb hby at_298) rfl ?_
    refine XS.ifNo X203.here hx rfl (hb hby at_300) rfl ((if0 _ _).trans (feq (by decide : ¬ ((1 : Int32) = (0 : Int32)))).1) ?_
    refine XS.iload X203.here hx rfl (hb hby at_303) rfl ?_
    refine XS.ifNo X203.here hx rfl (hb hby at_305) rfl ((if0 _ _).trans (feq (by decide : ¬ ((1 : Int32) = (0 : Int32)))).1) ?_
    refine XS.iload X203.here hx rfl (hb hby at_308) rfl ?_
    refine XS.ifNo X203.here hx rfl (hb hby at_310) rfl ((if0 _ _).trans (feq (by decide : ¬ ((1 : Int32) = (0 : Int32)))).1) ?_
    refine XS.iload X203.here hx rfl (hb hby at_313) rfl ?_
    refine XS.ifNo X203.here hx rfl (hb hby at_315) rfl ((if0 _ _).trans (feq (by decide : ¬ ((1 : Int32) = (0 : Int32)))).1) ?_
    show Steps p.tables e below (T203.setTop (mkF m 318 #[.val (.int p0), .val (.int p1), .val (.int p2), .val (.int p3), .val (.ref b_176), .val (.int vm_), .val .null, .val (.int (0 : Int32)), .val (.ref b178), .val (.ref b_180), .val (.ref c_183), .val (.int (1 : Int32)), .val (.ref c_187), .val (.int (1 : Int32)), .val (.ref b_176), .val (.int (1 : Int32)), .val .null, .val (.int (1 : Int32)), .val (.int (1 : Int32)), .val (.int (1 : Int32))] [])) _
    refine XS.iconst X203.here hx rfl (hb hby at_318) ?_
    refine XS.goto X203.here hx rfl (pc0 := 319) (pc' := 323) rfl (hb hby at_319) (by decide) (by decide) ?_
    exact retN X203 hx (t := .boolean) Bd.returns (by simp) (hb hby at_323) hr
  · show Q0 Z G1 p0 p1 p2 p3 h0 n0 _ T203.heap _
    rw [eq203]
    exact ⟨rfl, N203, K0_192⟩
  · show CHr Z own_EL s.vm s.heap T203.vm T203.heap
    rw [hh, eq203]
    exact hFin
set_option maxRecDepth 65536 in
set_option maxHeartbeats 40000000 in
theorem rm0_1t (l : Launch) (Z : State) (a0 : Array Value) (G1 : Int32) (hG : Glob Z a0 G1) (ws : List Jvm.Cond) (p0 : Int32) (p1 : Int32) (p2 : Int32) (p3 : Int32) (h0 : Heap) (n0 : Nat) (Z0 : n0 ≤ h0.size) (X00 : Old Z n0 h0) (hn : ((((p3.toUInt32 >>> ((5 : Int32) &&& 31).toUInt32).toInt32) &&& (7 : Int32)) % (5 : Int32)) = (1 : Int32)) (hm : ¬ ((((p3.toUInt32 >>> ((2 : Int32) &&& 31).toUInt32).toInt32) &&& (7 : Int32)) = (0 : Int32))) :
    MetFree l x (head1 (Jvm.Cond.code x code maxLocals ret :: ws) room_1) (fun a U => a = #[(.int p0), (.int p1), (.int p2), (.int p3)] ∧ Z.Warmed39 U.vm ∧ U.heap = h0 ∧ CHv Z own_EL U.vm h0) (fun _ _ _ _ _ => True) (fun _ U o U' => ∃ v L, o = .returned v ∧ Q0 Z G1 p0 p1 p2 p3 h0 n0 v U'.heap L ∧ CHr Z own_EL U.vm U.heap U'.vm U'.heap ∧ ReturnedEndW U o U' L room_1.cells room_1.slots) := by
  obtain ⟨hw, O_cs, P_cs⟩ := id hG
  have W : ∀ (i : Nat) {d : Jvm.Cond}, tables_1[i]? = some d → d.before a0 Z = true := fun i d h => hw d (List.mem_of_getElem? h)
  refine MetFree.of_bodySF (plainFor_of_name pn_com_example_larkbridge_larkbridge_mcp_McpResourceContentsBinaryPinLaw) hisR ?_
  intro p e s m args below meth c s₁ Bd hml0 hP hK
  obtain ⟨rfl, hZ, hh, hCH⟩ := hP
  have hx := Bd.exec
  have hby := Bd.bytes
  have hml : c.maxLocals = 20 := hml0
  have hown : s.vm.findClass "com/example/larkbridge/larkbridge/mcp/McpResourceContentsBinaryPinLaw" = some m.cls := findClass_of_methodNamed Bd.named
  have hnm := (name_of_methodNamed Bd.named Bd.method).1
  have X0 : Stand p l e room_1 (s.setVm s.vm) m #[(.int p0), (.int p1), (.int p2), (.int p3)] below meth c s₁ [] 0 0 := Stand.of_body Bd
  have e0 : s₁.heap = h0 := by rw [← hh, Bd.state]; rfl
  have hS0 : s.Since s.vm h0.size := (State.WarmedH.refl s).since _
  have hk0 : h0.size ≤ h0.size := Nat.le_refl _
  have R0 : CHr Z own_EL s.vm h0 s.vm h0 := CHr.refl hCH
  have hEL := own_ew hw
  have N0 := Fr.nil n0
  have pre0 : ∀ t, Steps p.tables e below (s₁.setTop (mkF m 0 #[.val (.int p0), .val (.int p1), .val (.int p2), .val (.int p3), .unset, .unset, .unset, .unset, .unset, .unset, .unset, .unset, .unset, .unset, .unset, .unset, .unset, .unset, .unset, .unset] [])) t → Steps p.tables e below (s₁.setTop (entryFrame m #[(.int p0), (.int p1), (.int p2), (.int p3)] maxLocals)) t := fun t kk_ => castTop (ef_code_IIII m p0 p1 p2 p3) kk_
  -- pc 4: com/example/larkbridge/larkbridge/mcp/McpResourceContentsBinaryPinLaw.str
  obtain ⟨_, _, ⟨T204, L204, k204, n204⟩, -, X204, hS204, hG204, ⟨Lc204, hQ204, l204, y204, z204, hC204⟩, st204⟩ := callSS X0 hx (y := y3) hown (mvT hZ (W 0 rfl)) (mvT hZ (W 1 rfl)) (mvT hZ (W 2 rfl)) (mvT hZ (W 3 rfl)) (by decide) (backOfSH (s := s) (W := 0) (rmstr l Z a0 G1 hG [] p0 (p3 &&& (3 : Int32)) h0 n0 Z0 X00) hZ (W 3 rfl) (W 2 rfl) (by decide) (by decide) hEL R0.1) (g := (mkF m 4 #[.val (.int p0), .val (.int p1), .val (.int p2), .val (.int p3), .unset, .unset, .unset, .unset, .unset, .unset, .unset, .unset, .unset, .unset, .unset, .unset, .unset, .unset, .unset, .unset] [(.int (p3 &&& (3 : Int32))), (.int p0)])) rfl (by rw [hml]; rfl) (argsL := [(.int p0), (.int (p3 &&& (3 : Int32)))]) (rest := []) (lenOf pd__II_Ljava_lang_String_ rfl) rfl (by show 2 * 0 + _ ≤ _; exact Nat.le_of_eq rfl) (hb hby at_4) (fun _ _ => ⟨rfl, e0, (by decide : 0 + 6 ≤ _), (by decide : 0 + 12 ≤ _)⟩)
  dsimp only [Pt.U, Pt.locs, Pt.cells, Pt.slots] at X204 l204 y204 z204 st204 hQ204 hS204 hG204 hC204
  subst l204 y204 z204
  have hZ204 : Z.Warmed39 T204.vm := State.Warmed39.trans (t := s.setVm s.vm) hZ hS204.1
  have hw204 : T204.vm.findClass "com/example/larkbridge/larkbridge/mcp/McpResourceContentsBinaryPinLaw" = some m.cls := by rw [hS204.1.alike.findClass]; exact hown
  have hSn204 : s.Since T204.vm T204.heap.size := hS0.trans hS204 (Nat.le_trans hk0 (by have q := hG204; rw [e0] at q; exact q))
  have X204 : Stand p l e _ (s.setVm T204.vm) m _ below meth c T204 _ _ _ := X204
  obtain ⟨b_204, rfl, N204q, K204, f204_0, f204_1⟩ := hQ204
  have N204 := Fr.app N0 N204q
  have Z205 : n0 ≤ T204.heap.size := Nat.le_trans Z0 K204.1
  have K0_205 : Keep h0 T204.heap [] := (Keep.refl h0 []).trans K204 all0
  have O205 : Old Z n0 T204.heap := X00.keep K204 all0
  have hkw204 : T204.heap.size ≤ T204.heap.size := Nat.le_refl _
  have Rb204 : CHr Z own_EL s.vm h0 T204.vm T204.heap := R0.trans hC204
  have lo_b_204 : h0.size ≤ b_204 := f204_0
  have g_b_204 : n0 ≤ b_204 := Nat.le_trans Z0 lo_b_204
  have l0_b_204 : h0.size ≤ b_204 := Nat.le_trans (Keep.refl h0 []).1 lo_b_204
  obtain ⟨vm_, hvm⟩ : ∃ z : Int32, z = (((p3.toUInt32 >>> ((2 : Int32) &&& 31).toUInt32).toInt32) &&& (7 : Int32)) := ⟨_, rfl⟩
  -- pc 31: com/example/larkbridge/larkbridge/mcp/McpResourceContentsBinaryPinLaw.str
  obtain ⟨_, _, ⟨T206, L206, k206, n206⟩, -, X206, hS206, hG206, ⟨Lc206, hQ206, l206, y206, z206, hC206⟩, st206⟩ := callSS X204 hx (y := y3) hw204 (mvT hZ204 (W 0 rfl)) (mvT hZ204 (W 1 rfl)) (mvT hZ204 (W 2 rfl)) (mvT hZ204 (W 3 rfl)) (by decide) (backOfSH (s := s) (W := 0) (rmstr l Z a0 G1 hG [] p1 (vm_ &&& (3 : Int32)) T204.heap n0 Z205 O205) hZ204 (W 3 rfl) (W 2 rfl) (by decide) (by decide) hEL Rb204.1) (g := (mkF m 31 #[.val (.int p0), .val (.int p1), .val (.int p2), .val (.int p3), .val (.ref b_204), .val (.int vm_), .unset, .unset, .unset, .unset, .unset, .unset, .unset, .unset, .unset, .unset, .unset, .unset, .unset, .unset] [(.int (vm_ &&& (3 : Int32))), (.int p1)])) rfl (by rw [hml]; rfl) (argsL := [(.int p1), (.int (vm_ &&& (3 : Int32)))]) (rest := []) (lenOf pd__II_Ljava_lang_String_ rfl) rfl (by show 2 * 0 + _ ≤ _; exact Nat.le_of_eq rfl) (hb hby at_31) (fun _ _ => ⟨rfl, rfl, (by decide : 6 + 6 ≤ _), (by decide : 12 + 12 ≤ _)⟩)
  dsimp only [Pt.U, Pt.locs, Pt.cells, Pt.slots] at X206 l206 y206 z206 st206 hQ206 hS206 hG206 hC206
  subst l206 y206 z206
  have hZ206 : Z.Warmed39 T206.vm := State.Warmed39.trans (t := s.setVm T204.vm) hZ204 hS206.1
  have hw206 : T206.vm.findClass "com/example/larkbridge/larkbridge/mcp/McpResourceContentsBinaryPinLaw" = some m.cls := by rw [hS206.1.alike.findClass]; exact hw204
  have hSn206 : s.Since T206.vm T206.heap.size := hSn204.trans hS206 (Nat.le_trans hkw204 (hG206))
  have X206 : Stand p l e _ (s.setVm T206.vm) m _ below meth c T206 _ _ _ := X206
  obtain ⟨b_206, rfl, N206q, K206, f206_0, f206_1⟩ := hQ206
  have N206 := Fr.app N204 N206q
  have Z207 : n0 ≤ T206.heap.size := Nat.le_trans Z205 K206.1
  have K0_207 : Keep h0 T206.heap [] := K0_205.trans K206 all0
  have O207 : Old Z n0 T206.heap := O205.keep K206 all0
  have hkw206 : T206.heap.size ≤ T206.heap.size := Nat.le_refl _
  have Rb206 : CHr Z own_EL s.vm h0 T206.vm T206.heap := Rb204.trans hC206
  have lo_b_206 : T204.heap.size ≤ b_206 := f206_0
  have g_b_206 : n0 ≤ b_206 := Nat.le_trans Z205 lo_b_206
  have l0_b_206 : h0.size ≤ b_206 := Nat.le_trans K0_205.1 lo_b_206
  obtain ⟨T208, h208, k208, X208, e208, E208, A208, Q208, st208⟩ := newPE X206 hx hZ206 (W 23 rfl) rfl (g := (mkF m 48 #[.val (.int p0), .val (.int p1), .val (.int p2), .val (.int p3), .val (.ref b_204), .val (.int vm_), .val (.ref b_206), .val (.int (1 : Int32)), .unset, .unset, .unset, .unset, .unset, .unset, .unset, .unset, .unset, .unset, .unset, .unset] [(.int (1 : Int32))])) rfl (hb hby at_48) rfl (by decide) (cap := 1) (by decide) (by decide) (by decide) (by decide) (ad := "[B") rfl
  obtain ⟨b208, g208⟩ : ∃ z, z = T206.heap.size := ⟨_, rfl⟩
  rw [← g208] at A208 Q208 st208
  have Z209 : n0 ≤ h208.size := Nat.le_trans Z207 E208.1
  have K0_209 : Keep h0 h208 [] := K0_207.ext E208
  have O209 : Old Z n0 h208 := O207.ext E208
  have R209 : CHr Z own_EL s.vm h0 T206.vm h208 := Rb206.trans (CHr.ext E208 Rb206.1)
  have hk209 : T206.heap.size ≤ h208.size := Nat.le_trans hkw206 E208.1
  have lo_b208 : T206.heap.size ≤ b208 := Nat.le_of_eq g208.symm
  have g_b208 : n0 ≤ b208 := Nat.le_trans Z207 lo_b208
  have l0_b208 : h0.size ≤ b208 := Nat.le_trans K0_207.1 lo_b208
  have sfb208 : Safe Z own_EL T206.vm h208 b208 := Safe.ext E208 Rb206.1 (Safe.new lo_b208)
  have V_b208 : Arv Z h208 b208 k208 .byte (1 : Int32) [(.int (0 : Int32))] (.int (0 : Int32)) := (Arv.new A208 (by decide)).pad (pad_rep [] (.int (0 : Int32)) 1)
  obtain ⟨clq210, Arq210, qaq210, Sq210, Nq210, Hq210, Gq210⟩ := id V_b208
  have hinq210 : ¬ ((0 : Int32) < 0 ∨ clq210.slots.size ≤ ((0 : Int32)).toNatClampNeg) := inb_of Sq210 ⟨by decide, by decide⟩
  obtain ⟨T211, h211, X211, e211, W211, st211⟩ := stB X208 hx hZ206 e208 Arq210 (j := (0 : Int32)) hinq210 (g := (mkF m 62 #[.val (.int p0), .val (.int p1), .val (.int p2), .val (.int p3), .val (.ref b_204), .val (.int vm_), .val (.ref b_206), .val (.int (1 : Int32)), .val (.ref b208), .unset, .unset, .unset, .unset, .unset, .unset, .unset, .unset, .unset, .unset, .unset] [(.int (p2.toInt8.toInt32)), (.int (0 : Int32)), (.ref b208)])) rfl rfl (hb hby at_62)
  have V211 : Arv Z h211 b208 k208 .byte (1 : Int32) [(.int ((p2.toInt8.toInt32).toInt8.toInt32))] (.int (0 : Int32)) := Arv.set Arq210 qaq210 Sq210 Nq210 Hq210 Gq210 (fits_nar_byte _) W211 0 rfl (Nat.le_of_ble_eq_true rfl)
  have Z212 : n0 ≤ h211.size := Nat.le_trans Z209 (Keep.of_wr W211).1
  have K0_212 : Keep h0 h211 [] := K0_209.wr W211 (Or.inr l0_b208)
  have O212 : Old Z n0 h211 := O209.wr W211 g_b208
  have R212 : CHr Z own_EL s.vm h0 T206.vm h211 := R209.trans (CHr.wr W211 sfb208 R209.1)
  have hk212 : T206.heap.size ≤ h211.size := Nat.le_trans hk209 (Keep.of_wr W211).1
  have sf212_b208 : Safe Z own_EL T206.vm h211 b208 := Safe.wr W211 sfb208 R209.1 sfb208
  have N211 := Fr.snoc X211 N206 g_b208
  have f214 := (((f204_1.keep K206).ext E208).wr W211)
  have f215 := (Q208.wr W211)
  -- pc 114: com/example/larkbridge/larkbridge/mcp/McpResourceContents.binary
  obtain ⟨_, _, ⟨T213, L213, k213, n213⟩, -, X213, hS213, hG213, ⟨Lc213, hQ213, l213, y213, z213, hC213⟩, st213⟩ := callSS X211 hx (y := y5) hw206 (mvT hZ206 (W 34 rfl)) (mvT hZ206 (W 35 rfl)) (mvT hZ206 (W 36 rfl)) (mvT hZ206 (W 37 rfl)) (by decide) (backOfSH (s := s) (W := 0) (rmmcb l Z a0 G1 hG [] b_204 (.ref b_206) b208 k208 (1 : Int32) ([(.int ((p2.toInt8.toInt32).toInt8.toInt32))] : List Value) h211 n0 Z212 O212 f214 f215 V211 rfl (by decide)) hZ206 (W 37 rfl) (W 36 rfl) (by decide) (by decide) hEL R212.1) (g := (mkF m 114 #[.val (.int p0), .val (.int p1), .val (.int p2), .val (.int p3), .val (.ref b_204), .val (.int vm_), .val (.ref b_206), .val (.int (1 : Int32)), .val (.ref b208), .unset, .unset, .unset, .unset, .unset, .unset, .unset, .unset, .unset, .unset, .unset] [(.ref b208), (.ref b_206), (.ref b_204)])) rfl (by rw [hml]; rfl) (argsL := [(.ref b_204), (.ref b_206), (.ref b208)]) (rest := []) (lenOf pd__Ljava_lang_String_Ljava_lang_String__B_Lcom_example_larkbridge_larkbridge_mcp_McpResourceContents_ rfl) rfl (by show 2 * 0 + _ ≤ _; exact Nat.le_of_eq rfl) (hb hby at_114) (fun _ _ => ⟨rfl, e211, (by decide : 13 + 4 ≤ _), (by decide : 25 + 24 ≤ _)⟩)
  dsimp only [Pt.U, Pt.locs, Pt.cells, Pt.slots] at X213 l213 y213 z213 st213 hQ213 hS213 hG213 hC213
  subst l213 y213 z213
  have hZ213 : Z.Warmed39 T213.vm := State.Warmed39.trans (t := s.setVm T206.vm) hZ206 hS213.1
  have hw213 : T213.vm.findClass "com/example/larkbridge/larkbridge/mcp/McpResourceContentsBinaryPinLaw" = some m.cls := by rw [hS213.1.alike.findClass]; exact hw206
  have hSn213 : s.Since T213.vm T213.heap.size := hSn206.trans hS213 (Nat.le_trans hk212 (by have q := hG213; rw [e211] at q; exact q))
  have X213 : Stand p l e _ (s.setVm T213.vm) m _ below meth c T213 _ _ _ := X213
  obtain ⟨b_213, c_213, rfl, N213q, K213, f213_0, f213_1, f213_2, f213_3, f213_4, f213_5, f213_6, f213_7, f213_8⟩ := hQ213
  have N213 := Fr.app N211 N213q
  have Z216 : n0 ≤ T213.heap.size := Nat.le_trans Z212 K213.1
  have K0_216 : Keep h0 T213.heap [] := K0_212.trans K213 all0
  have O216 : Old Z n0 T213.heap := O212.keep K213 all0
  have hkw213 : T213.heap.size ≤ T213.heap.size := Nat.le_refl _
  have sfw216_b208 : Safe Z own_EL T213.vm T213.heap b208 := hC213.safe f215.lt sf212_b208
  have Rb213 : CHr Z own_EL s.vm h0 T213.vm T213.heap := R212.trans hC213
  have lo_b_213 : h211.size ≤ b_213 := f213_0
  have g_b_213 : n0 ≤ b_213 := Nat.le_trans Z212 lo_b_213
  have l0_b_213 : h0.size ≤ b_213 := Nat.le_trans K0_212.1 lo_b_213
  have lo_c_213 : h211.size ≤ c_213 := f213_1
  have g_c_213 : n0 ≤ c_213 := Nat.le_trans Z212 lo_c_213
  have l0_c_213 : h0.size ≤ c_213 := Nat.le_trans K0_212.1 lo_c_213
  have f217 := (V211.keep K213 nin0)
  obtain ⟨clq218, Arq218, qaq218, Sq218, Nq218, Hq218, Gq218⟩ := id f217
  have hinq218 : ¬ ((0 : Int32) < 0 ∨ clq218.slots.size ≤ ((0 : Int32)).toNatClampNeg) := inb_of Sq218 ⟨by decide, by decide⟩
  have hatq218 : clq218.slots[((0 : Int32)).toNatClampNeg]? = some (.int ((p2.toInt8.toInt32).toInt8.toInt32)) := Has.at Hq218 hinq218 rfl
  obtain ⟨clq219, Arq219, qaq219, Sq219, Nq219, Hq219, Gq219⟩ := id f217
  have hinq219 : ¬ ((0 : Int32) < 0 ∨ clq219.slots.size ≤ ((0 : Int32)).toNatClampNeg) := inb_of Sq219 ⟨by decide, by decide⟩
  obtain ⟨T220, h220, X220, e220, W220, st220⟩ := stB X213 hx hZ213 rfl Arq219 (j := (0 : Int32)) hinq219 (g := (mkF m 134 #[.val (.int p0), .val (.int p1), .val (.int p2), .val (.int p3), .val (.ref b_204), .val (.int vm_), .val (.ref b_206), .val (.int (1 : Int32)), .val (.ref b208), .val (.ref b_213), .unset, .unset, .unset, .unset, .unset, .unset, .unset, .unset, .unset, .unset] [(.int ((((p2.toInt8.toInt32).toInt8.toInt32) ^^^ (-1 : Int32)).toInt8.toInt32)), (.int (0 : Int32)), (.ref b208)])) rfl rfl (hb hby at_134)
  have V220 : Arv Z h220 b208 k208 .byte (1 : Int32) [(.int (((((p2.toInt8.toInt32).toInt8.toInt32) ^^^ (-1 : Int32)).toInt8.toInt32).toInt8.toInt32))] (.int (0 : Int32)) := Arv.set Arq219 qaq219 Sq219 Nq219 Hq219 Gq219 (fits_nar_byte _) W220 0 rfl (Nat.le_of_ble_eq_true rfl)
  have Z221 : n0 ≤ h220.size := Nat.le_trans Z216 (Keep.of_wr W220).1
  have K0_221 : Keep h0 h220 [] := K0_216.wr W220 (Or.inr l0_b208)
  have O221 : Old Z n0 h220 := O216.wr W220 g_b208
  have R221 : CHr Z own_EL s.vm h0 T213.vm h220 := Rb213.trans (CHr.wr W220 sfw216_b208 Rb213.1)
  have hk221 : T213.heap.size ≤ h220.size := Nat.le_trans hkw213 (Keep.of_wr W220).1
  have sf221_b208 : Safe Z own_EL T213.vm h220 b208 := Safe.wr W220 sfw216_b208 Rb213.1 sfw216_b208
  have N220 := Fr.snoc X220 N213 g_b208
  have f223 := (f213_8.other W220 (Or.inl (Ne.symm (Nat.ne_of_lt (Nat.lt_of_lt_of_le f215.lt lo_b_213)))))
  have f224 := (f213_3.wr W220)
  have f225 := (f213_4.other W220 (Ne.symm (Nat.ne_of_lt (Nat.lt_of_lt_of_le f215.lt lo_c_213))))
  have f226 := (f213_2.wr W220)
  obtain ⟨cq222, kq222, q222a, q222b, q222c⟩ := isOf hZ213 e220 f226
  -- pc 154: com/example/larkbridge/larkbridge/mcp/McpResourceContents.bytes
  obtain ⟨_, _, ⟨T222, L222, k222, n222⟩, -, X222, ⟨Lc222, hQ222, l222, y222, z222⟩, st222⟩ := X220.virtualBack hx (y := y6) (z := y6) hw213 (mvT hZ213 (W 69 rfl)) (mvT hZ213 (W 70 rfl)) (notFace_of_selects (args := #[]) (mvT hZ213 (W 72 rfl))) (mvT hZ213 (W 72 rfl)) (mvT hZ213 (W 71 rfl)) (by decide) (backOf (W := 0) (rmbyt l Z a0 G1 hG [] b_213 c_213 k208 (1 : Int32) ([(.int ((p2.toInt8.toInt32).toInt8.toInt32))] : List Value) h220 n0 Z221 O221 f223 f224 f225 (by decide)) hZ213 (W 73 rfl) (W 36 rfl) (by decide) (by decide)) q222a q222c (g := (mkF m 154 #[.val (.int p0), .val (.int p1), .val (.int p2), .val (.int p3), .val (.ref b_204), .val (.int vm_), .val (.ref b_206), .val (.int (1 : Int32)), .val (.ref b208), .val (.ref b_213), .unset, .unset, .unset, .unset, .unset, .unset, .unset, .unset, .unset, .unset] [(.ref b_213)])) rfl (by rw [hml]; rfl) (Steps.refl _) (argsL := []) (rest := []) (lenOf pd____B rfl) rfl (by show 2 * 0 + _ ≤ _; exact Nat.le_of_eq rfl) (hb hby at_154) (fun _ _ => ⟨rfl, e220, (by decide : 17 + 1 ≤ _), (by decide : 49 + 4 ≤ _)⟩)
  dsimp only [Pt.U, Pt.locs, Pt.cells, Pt.slots] at X222 l222 y222 z222 st222 hQ222
  subst l222 y222 z222
  obtain ⟨c_222, rfl, N222q, K222, f222_0, f222_1, f222_2⟩ := hQ222
  have N222 := Fr.app N220 N222q
  have Z227 : n0 ≤ T222.heap.size := Nat.le_trans Z221 K222.1
  have K0_227 : Keep h0 T222.heap [] := K0_221.trans K222 all0
  have O227 : Old Z n0 T222.heap := O221.keep K222 all0
  have R227 : CHr Z own_EL s.vm h0 T213.vm T222.heap := R221.trans (CHr.keep K222 sf0 R221.1)
  have hk227 : T213.heap.size ≤ T222.heap.size := Nat.le_trans hk221 K222.1
  have sf227_b208 : Safe Z own_EL T213.vm T222.heap b208 := Safe.keep K222 sf0 R221.1 sf221_b208
  have lo_c_222 : h220.size ≤ c_222 := f222_0
  have g_c_222 : n0 ≤ c_222 := Nat.le_trans Z221 lo_c_222
  have l0_c_222 : h0.size ≤ c_222 := Nat.le_trans K0_221.1 lo_c_222
  have sfc222 : Safe Z own_EL T213.vm T222.heap c_222 := Safe.keep K222 sf0 R221.1 (Safe.new lo_c_222)
  -- pc 164: com/example/larkbridge/larkbridge/mcp/McpResourceContentsBinaryPinLaw.same
  obtain ⟨_, _, ⟨T228, L228, k228, n228⟩, -, X228, ⟨Lc228, hQ228, l228, y228, z228⟩, st228⟩ := Jvm.LawKit.callS X222 hx (y := y12) hw213 (mvT hZ213 (W 74 rfl)) (mvT hZ213 (W 75 rfl)) (mvT hZ213 (W 2 rfl)) (mvT hZ213 (W 76 rfl)) (by decide) (backOf (W := 0) (rmsame1 l Z a0 G1 hG [] c_222 p2 k208 T222.heap n0 Z227 O227 f222_2) hZ213 (W 76 rfl) (W 2 rfl) (by decide) (by decide)) (g := (mkF m 164 #[.val (.int p0), .val (.int p1), .val (.int p2), .val (.int p3), .val (.ref b_204), .val (.int vm_), .val (.ref b_206), .val (.int (1 : Int32)), .val (.ref b208), .val (.ref b_213), .val (.ref c_222), .unset, .unset, .unset, .unset, .unset, .unset, .unset, .unset, .unset] [(.int p2), (.int (1 : Int32)), (.ref c_222)])) rfl (by rw [hml]; rfl) (argsL := [(.ref c_222), (.int (1 : Int32)), (.int p2)]) (rest := []) (lenOf pd___BII_Z rfl) rfl (by show 2 * 0 + _ ≤ _; exact Nat.le_of_eq rfl) (hb hby at_164) (fun _ _ => ⟨rfl, rfl, (by decide : 18 + 0 ≤ _), (by decide : 53 + 0 ≤ _)⟩)
  dsimp only [Pt.U, Pt.locs, Pt.cells, Pt.slots] at X228 l228 y228 z228 st228 hQ228
  subst l228 y228 z228
  obtain ⟨rfl, N228q, eq228⟩ := hQ228
  have N228 := Fr.app N222 N228q
  obtain ⟨clq229, Arq229, qaq229, Sq229, Nq229, Hq229, Gq229⟩ := id f222_2
  obtain ⟨clq230, Arq230, qaq230, Sq230, Nq230, Hq230, Gq230⟩ := id f222_2
  have hinq230 : ¬ ((0 : Int32) < 0 ∨ clq230.slots.size ≤ ((0 : Int32)).toNatClampNeg) := inb_of Sq230 ⟨by decide, by decide⟩
  have hatq230 : clq230.slots[((0 : Int32)).toNatClampNeg]? = some (.int ((p2.toInt8.toInt32).toInt8.toInt32)) := Has.at Hq230 hinq230 rfl
  obtain ⟨clq231, Arq231, qaq231, Sq231, Nq231, Hq231, Gq231⟩ := id f222_2
  have hinq231 : ¬ ((0 : Int32) < 0 ∨ clq231.slots.size ≤ ((0 : Int32)).toNatClampNeg) := inb_of Sq231 ⟨by decide, by decide⟩
  obtain ⟨T232, h232, X232, e232, W232, st232⟩ := stB X228 hx hZ213 eq228 Arq231 (j := (0 : Int32)) hinq231 (g := (mkF m 190 #[.val (.int p0), .val (.int p1), .val (.int p2), .val (.int p3), .val (.ref b_204), .val (.int vm_), .val (.ref b_206), .val (.int (1 : Int32)), .val (.ref b208), .val (.ref b_213), .val (.ref c_222), .val (.int (1 : Int32)), .unset, .unset, .unset, .unset, .unset, .unset, .unset, .unset] [(.int ((((p2.toInt8.toInt32).toInt8.toInt32) ^^^ (-1 : Int32)).toInt8.toInt32)), (.int (0 : Int32)), (.ref c_222)])) rfl rfl (hb hby at_190)
  have V232 : Arv Z h232 c_222 k208 .byte (1 : Int32) [(.int (((((p2.toInt8.toInt32).toInt8.toInt32) ^^^ (-1 : Int32)).toInt8.toInt32).toInt8.toInt32))] (.int (0 : Int32)) := Arv.set Arq231 qaq231 Sq231 Nq231 Hq231 Gq231 (fits_nar_byte _) W232 0 rfl (Nat.le_of_ble_eq_true rfl)
  have Z233 : n0 ≤ h232.size := Nat.le_trans Z227 (Keep.of_wr W232).1
  have K0_233 : Keep h0 h232 [] := K0_227.wr W232 (Or.inr l0_c_222)
  have O233 : Old Z n0 h232 := O227.wr W232 g_c_222
  have R233 : CHr Z own_EL s.vm h0 T213.vm h232 := R227.trans (CHr.wr W232 sfc222 R227.1)
  have hk233 : T213.heap.size ≤ h232.size := Nat.le_trans hk227 (Keep.of_wr W232).1
  have sf233_b208 : Safe Z own_EL T213.vm h232 b208 := Safe.wr W232 sfc222 R227.1 sf227_b208
  have sf233_c_222 : Safe Z own_EL T213.vm h232 c_222 := Safe.wr W232 sfc222 R227.1 sfc222
  have N232 := Fr.snoc X232 N228 g_c_222
  have f235 := ((f223.keep K222 nin0).other W232 (Or.inl (Nat.ne_of_lt (Nat.lt_of_lt_of_le f226.lt lo_c_222))))
  have f236 := ((f224.keep K222).wr W232)
  have f237 := ((f225.keep K222 nin0).other W232 (Nat.ne_of_lt (Nat.lt_of_lt_of_le f224.lt lo_c_222)))
  have f238 := ((f226.keep K222).wr W232)
  obtain ⟨cq234, kq234, q234a, q234b, q234c⟩ := isOf hZ213 e232 f238
  -- pc 193: com/example/larkbridge/larkbridge/mcp/McpResourceContents.bytes
  obtain ⟨_, _, ⟨T234, L234, k234, n234⟩, -, X234, ⟨Lc234, hQ234, l234, y234, z234⟩, st234⟩ := X232.virtualBack hx (y := y6) (z := y6) hw213 (mvT hZ213 (W 69 rfl)) (mvT hZ213 (W 70 rfl)) (notFace_of_selects (args := #[]) (mvT hZ213 (W 72 rfl))) (mvT hZ213 (W 72 rfl)) (mvT hZ213 (W 71 rfl)) (by decide) (backOf (W := 0) (rmbyt l Z a0 G1 hG [] b_213 c_213 k208 (1 : Int32) ([(.int ((p2.toInt8.toInt32).toInt8.toInt32))] : List Value) h232 n0 Z233 O233 f235 f236 f237 (by decide)) hZ213 (W 73 rfl) (W 36 rfl) (by decide) (by decide)) q234a q234c (g := (mkF m 193 #[.val (.int p0), .val (.int p1), .val (.int p2), .val (.int p3), .val (.ref b_204), .val (.int vm_), .val (.ref b_206), .val (.int (1 : Int32)), .val (.ref b208), .val (.ref b_213), .val (.ref c_222), .val (.int (1 : Int32)), .unset, .unset, .unset, .unset, .unset, .unset, .unset, .unset] [(.ref b_213)])) rfl (by rw [hml]; rfl) (Steps.refl _) (argsL := []) (rest := []) (lenOf pd____B rfl) rfl (by show 2 * 0 + _ ≤ _; exact Nat.le_of_eq rfl) (hb hby at_193) (fun _ _ => ⟨rfl, e232, (by decide : 18 + 1 ≤ _), (by decide : 53 + 4 ≤ _)⟩)
  dsimp only [Pt.U, Pt.locs, Pt.cells, Pt.slots] at X234 l234 y234 z234 st234 hQ234
  subst l234 y234 z234
  obtain ⟨c_234, rfl, N234q, K234, f234_0, f234_1, f234_2⟩ := hQ234
  have N234 := Fr.app N232 N234q
  have Z239 : n0 ≤ T234.heap.size := Nat.le_trans Z233 K234.1
  have K0_239 : Keep h0 T234.heap [] := K0_233.trans K234 all0
  have O239 : Old Z n0 T234.heap := O233.keep K234 all0
  have R239 : CHr Z own_EL s.vm h0 T213.vm T234.heap := R233.trans (CHr.keep K234 sf0 R233.1)
  have hk239 : T213.heap.size ≤ T234.heap.size := Nat.le_trans hk233 K234.1
  have sf239_b208 : Safe Z own_EL T213.vm T234.heap b208 := Safe.keep K234 sf0 R233.1 sf233_b208
  have sf239_c_222 : Safe Z own_EL T213.vm T234.heap c_222 := Safe.keep K234 sf0 R233.1 sf233_c_222
  have lo_c_234 : h232.size ≤ c_234 := f234_0
  have g_c_234 : n0 ≤ c_234 := Nat.le_trans Z233 lo_c_234
  have l0_c_234 : h0.size ≤ c_234 := Nat.le_trans K0_233.1 lo_c_234
  have sfc234 : Safe Z own_EL T213.vm T234.heap c_234 := Safe.keep K234 sf0 R233.1 (Safe.new lo_c_234)
  -- pc 203: com/example/larkbridge/larkbridge/mcp/McpResourceContentsBinaryPinLaw.same
  obtain ⟨_, _, ⟨T240, L240, k240, n240⟩, -, X240, ⟨Lc240, hQ240, l240, y240, z240⟩, st240⟩ := Jvm.LawKit.callS X234 hx (y := y12) hw213 (mvT hZ213 (W 74 rfl)) (mvT hZ213 (W 75 rfl)) (mvT hZ213 (W 2 rfl)) (mvT hZ213 (W 76 rfl)) (by decide) (backOf (W := 0) (rmsame1 l Z a0 G1 hG [] c_234 p2 k208 T234.heap n0 Z239 O239 f234_2) hZ213 (W 76 rfl) (W 2 rfl) (by decide) (by decide)) (g := (mkF m 203 #[.val (.int p0), .val (.int p1), .val (.int p2), .val (.int p3), .val (.ref b_204), .val (.int vm_), .val (.ref b_206), .val (.int (1 : Int32)), .val (.ref b208), .val (.ref b_213), .val (.ref c_222), .val (.int (1 : Int32)), .val (.ref c_234), .unset, .unset, .unset, .unset, .unset, .unset, .unset] [(.int p2), (.int (1 : Int32)), (.ref c_234)])) rfl (by rw [hml]; rfl) (argsL := [(.ref c_234), (.int (1 : Int32)), (.int p2)]) (rest := []) (lenOf pd___BII_Z rfl) rfl (by show 2 * 0 + _ ≤ _; exact Nat.le_of_eq rfl) (hb hby at_203) (fun _ _ => ⟨rfl, rfl, (by decide : 19 + 0 ≤ _), (by decide : 57 + 0 ≤ _)⟩)
  dsimp only [Pt.U, Pt.locs, Pt.cells, Pt.slots] at X240 l240 y240 z240 st240 hQ240
  subst l240 y240 z240
  obtain ⟨rfl, N240q, eq240⟩ := hQ240
  have N240 := Fr.app N234 N240q
  have f242 := ((((f213_5.other W220 (Or.inl (Ne.symm (Nat.ne_of_lt (Nat.lt_of_lt_of_le f215.lt lo_b_213))))).keep K222 nin0).other W232 (Or.inl (Nat.ne_of_lt (Nat.lt_of_lt_of_le f226.lt lo_c_222)))).keep K234 nin0)
  have f243 := (f238.keep K234)
  obtain ⟨cq241, kq241, q241a, q241b, q241c⟩ := isOf hZ213 eq240 f243
  -- pc 210: com/example/larkbridge/larkbridge/mcp/McpResourceContents.uri
  obtain ⟨_, _, ⟨T241, L241, k241, n241⟩, -, X241, ⟨Lc241, hQ241, l241, y241, z241⟩, st241⟩ := X240.virtualBack hx (y := y7) (z := y7) hw213 (mvT hZ213 (W 77 rfl)) (mvT hZ213 (W 78 rfl)) (notFace_of_selects (args := #[]) (mvT hZ213 (W 80 rfl))) (mvT hZ213 (W 80 rfl)) (mvT hZ213 (W 79 rfl)) (by decide) (backOf (W := 0) (rmG_McpResourceContents_uri l Z a0 G1 hG [] b_213 (.ref b_204) T234.heap n0 Z239 O239 f242 rfl) hZ213 (W 81 rfl) (W 36 rfl) (by decide) (by decide)) q241a q241c (g := (mkF m 210 #[.val (.int p0), .val (.int p1), .val (.int p2), .val (.int p3), .val (.ref b_204), .val (.int vm_), .val (.ref b_206), .val (.int (1 : Int32)), .val (.ref b208), .val (.ref b_213), .val (.ref c_222), .val (.int (1 : Int32)), .val (.ref c_234), .val (.int (1 : Int32)), .unset, .unset, .unset, .unset, .unset, .unset] [(.ref b_213)])) rfl (by rw [hml]; rfl) (Steps.refl _) (argsL := []) (rest := []) (lenOf pd___Ljava_lang_String_ rfl) rfl (by show 2 * 0 + _ ≤ _; exact Nat.le_of_eq rfl) (hb hby at_210) (fun _ _ => ⟨rfl, eq240, (by decide : 19 + 0 ≤ _), (by decide : 57 + 0 ≤ _)⟩)
  dsimp only [Pt.U, Pt.locs, Pt.cells, Pt.slots] at X241 l241 y241 z241 st241 hQ241
  subst l241 y241 z241
  obtain ⟨rfl, N241q, eq241⟩ := hQ241
  have N241 := Fr.app N240 N241q
  have f245 := (((((f214.keep K213).wr W220).keep K222).wr W232).keep K234)
  obtain ⟨cq244, kq244, q244a, q244b, q244c⟩ := isOf hZ213 eq241 f245
  -- pc 219: java/lang/String.equals
  obtain ⟨_, _, ⟨T244, L244, k244, n244⟩, -, X244, ⟨Lc244, hQ244, l244, y244, z244⟩, st244⟩ := X241.virtualBack hx (y := y11) (z := y11) hw213 (mvT hZ213 (W 82 rfl)) (mvT hZ213 (W 83 rfl)) (notFace_of_selects (args := #[]) (mvT hZ213 (W 85 rfl))) (mvT hZ213 (W 85 rfl)) (mvT hZ213 (W 84 rfl)) (by decide) (backOf (W := 0) (rmeqs l Z a0 G1 hG [] b_204 T234.heap n0 Z239 O239) hZ213 (W 86 rfl) (W 6 rfl) (by decide) (by decide)) q244a q244c (g := (mkF m 219 #[.val (.int p0), .val (.int p1), .val (.int p2), .val (.int p3), .val (.ref b_204), .val (.int vm_), .val (.ref b_206), .val (.int (1 : Int32)), .val (.ref b208), .val (.ref b_213), .val (.ref c_222), .val (.int (1 : Int32)), .val (.ref c_234), .val (.int (1 : Int32)), .val (.ref b_204), .unset, .unset, .unset, .unset, .unset] [(.ref b_204), (.ref b_204)])) rfl (by rw [hml]; rfl) (Steps.refl _) (argsL := [(.ref b_204)]) (rest := []) (lenOf pd__Ljava_lang_Object__Z rfl) rfl (by show 2 * 0 + _ ≤ _; exact Nat.le_of_eq rfl) (hb hby at_219) (fun _ _ => ⟨rfl, eq241, (by decide : 19 + 0 ≤ _), (by decide : 57 + 0 ≤ _)⟩)
  dsimp only [Pt.U, Pt.locs, Pt.cells, Pt.slots] at X244 l244 y244 z244 st244 hQ244
  subst l244 y244 z244
  obtain ⟨rfl, N244q, eq244⟩ := hQ244
  have N244 := Fr.app N241 N244q
  have f247 := ((((f213_6.other W220 (Or.inl (Ne.symm (Nat.ne_of_lt (Nat.lt_of_lt_of_le f215.lt lo_b_213))))).keep K222 nin0).other W232 (Or.inl (Nat.ne_of_lt (Nat.lt_of_lt_of_le f226.lt lo_c_222)))).keep K234 nin0)
  obtain ⟨cq246, kq246, q246a, q246b, q246c⟩ := isOf hZ213 eq244 f243
  -- pc 226: com/example/larkbridge/larkbridge/mcp/McpResourceContents.mimeType
  obtain ⟨_, _, ⟨T246, L246, k246, n246⟩, -, X246, ⟨Lc246, hQ246, l246, y246, z246⟩, st246⟩ := X244.virtualBack hx (y := y8) (z := y8) hw213 (mvT hZ213 (W 87 rfl)) (mvT hZ213 (W 88 rfl)) (notFace_of_selects (args := #[]) (mvT hZ213 (W 90 rfl))) (mvT hZ213 (W 90 rfl)) (mvT hZ213 (W 89 rfl)) (by decide) (backOf (W := 0) (rmG_McpResourceContents_mimeType l Z a0 G1 hG [] b_213 (.ref b_206) T234.heap n0 Z239 O239 f247 rfl) hZ213 (W 91 rfl) (W 36 rfl) (by decide) (by decide)) q246a q246c (g := (mkF m 226 #[.val (.int p0), .val (.int p1), .val (.int p2), .val (.int p3), .val (.ref b_204), .val (.int vm_), .val (.ref b_206), .val (.int (1 : Int32)), .val (.ref b208), .val (.ref b_213), .val (.ref c_222), .val (.int (1 : Int32)), .val (.ref c_234), .val (.int (1 : Int32)), .val (.ref b_204), .val (.int (1 : Int32)), .unset, .unset, .unset, .unset] [(.ref b_213)])) rfl (by rw [hml]; rfl) (Steps.refl _) (argsL := []) (rest := []) (lenOf pd___Ljava_lang_String_ rfl) rfl (by show 2 * 0 + _ ≤ _; exact Nat.le_of_eq rfl) (hb hby at_226) (fun _ _ => ⟨rfl, eq244, (by decide : 19 + 0 ≤ _), (by decide : 57 + 0 ≤ _)⟩)
  dsimp only [Pt.U, Pt.locs, Pt.cells, Pt.slots] at X246 l246 y246 z246 st246 hQ246
  subst l246 y246 z246
  obtain ⟨rfl, N246q, eq246⟩ := hQ246
  have N246 := Fr.app N244 N246q
  have f249 := (((((((f206_1.ext E208).wr W211).keep K213).wr W220).keep K222).wr W232).keep K234)
  obtain ⟨cq248, kq248, q248a, q248b, q248c⟩ := isOf hZ213 eq246 f249
  -- pc 253: java/lang/String.equals
  obtain ⟨_, _, ⟨T248, L248, k248, n248⟩, -, X248, ⟨Lc248, hQ248, l248, y248, z248⟩, st248⟩ := X246.virtualBack hx (y := y11) (z := y11) hw213 (mvT hZ213 (W 82 rfl)) (mvT hZ213 (W 83 rfl)) (notFace_of_selects (args := #[]) (mvT hZ213 (W 85 rfl))) (mvT hZ213 (W 85 rfl)) (mvT hZ213 (W 84 rfl)) (by decide) (backOf (W := 0) (rmeqs l Z a0 G1 hG [] b_206 T234.heap n0 Z239 O239) hZ213 (W 86 rfl) (W 6 rfl) (by decide) (by decide)) q248a q248c (g := (mkF m 253 #[.val (.int p0), .val (.int p1), .val (.int p2), .val (.int p3), .val (.ref b_204), .val (.int vm_), .val (.ref b_206), .val (.int (1 : Int32)), .val (.ref b208), .val (.ref b_213), .val (.ref c_222), .val (.int (1 : Int32)), .val (.ref c_234), .val (.int (1 : Int32)), .val (.ref b_204), .val (.int (1 : Int32)), .val (.ref b_206), .unset, .unset, .unset] [(.ref b_206), (.ref b_206)])) rfl (by rw [hml]; rfl) (Steps.refl _) (argsL := [(.ref b_206)]) (rest := []) (lenOf pd__Ljava_lang_Object__Z rfl) rfl (by show 2 * 0 + _ ≤ _; exact Nat.le_of_eq rfl) (hb hby at_253) (fun _ _ => ⟨rfl, eq246, (by decide : 19 + 0 ≤ _), (by decide : 57 + 0 ≤ _)⟩)
  dsimp only [Pt.U, Pt.locs, Pt.cells, Pt.slots] at X248 l248 y248 z248 st248 hQ248
  subst l248 y248 z248
  obtain ⟨rfl, N248q, eq248⟩ := hQ248
  have N248 := Fr.app N246 N248q
  have f251 := ((((f213_7.other W220 (Or.inl (Ne.symm (Nat.ne_of_lt (Nat.lt_of_lt_of_le f215.lt lo_b_213))))).keep K222 nin0).other W232 (Or.inl (Nat.ne_of_lt (Nat.lt_of_lt_of_le f226.lt lo_c_222)))).keep K234 nin0)
  obtain ⟨cq250, kq250, q250a, q250b, q250c⟩ := isOf hZ213 eq248 f243
  -- pc 260: com/example/larkbridge/larkbridge/mcp/McpResourceContents.isText
  obtain ⟨_, _, ⟨T250, L250, k250, n250⟩, -, X250, ⟨Lc250, hQ250, l250, y250, z250⟩, st250⟩ := X248.virtualBack hx (y := y9) (z := y9) hw213 (mvT hZ213 (W 92 rfl)) (mvT hZ213 (W 93 rfl)) (notFace_of_selects (args := #[]) (mvT hZ213 (W 95 rfl))) (mvT hZ213 (W 95 rfl)) (mvT hZ213 (W 94 rfl)) (by decide) (backOf (W := 0) (rmist l Z a0 G1 hG [] b_213 T234.heap n0 Z239 O239 f251) hZ213 (W 96 rfl) (W 36 rfl) (by decide) (by decide)) q250a q250c (g := (mkF m 260 #[.val (.int p0), .val (.int p1), .val (.int p2), .val (.int p3), .val (.ref b_204), .val (.int vm_), .val (.ref b_206), .val (.int (1 : Int32)), .val (.ref b208), .val (.ref b_213), .val (.ref c_222), .val (.int (1 : Int32)), .val (.ref c_234), .val (.int (1 : Int32)), .val (.ref b_204), .val (.int (1 : Int32)), .val (.ref b_206), .val (.int (1 : Int32)), .unset, .unset] [(.ref b_213)])) rfl (by rw [hml]; rfl) (Steps.refl _) (argsL := []) (rest := []) (lenOf pd___Z rfl) rfl (by show 2 * 0 + _ ≤ _; exact Nat.le_of_eq rfl) (hb hby at_260) (fun _ _ => ⟨rfl, eq248, (by decide : 19 + 0 ≤ _), (by decide : 57 + 0 ≤ _)⟩)
  dsimp only [Pt.U, Pt.locs, Pt.cells, Pt.slots] at X250 l250 y250 z250 st250 hQ250
  subst l250 y250 z250
  obtain ⟨rfl, N250q, eq250⟩ := hQ250
  have N250 := Fr.app N248 N250q
  obtain ⟨cq252, kq252, q252a, q252b, q252c⟩ := isOf hZ213 eq250 f243
  -- pc 275: com/example/larkbridge/larkbridge/mcp/McpResourceContents.text
  obtain ⟨_, _, ⟨T252, L252, k252, n252⟩, -, X252, ⟨Lc252, hQ252, l252, y252, z252⟩, st252⟩ := X250.virtualBack hx (y := y10) (z := y10) hw213 (mvT hZ213 (W 97 rfl)) (mvT hZ213 (W 98 rfl)) (notFace_of_selects (args := #[]) (mvT hZ213 (W 100 rfl))) (mvT hZ213 (W 100 rfl)) (mvT hZ213 (W 99 rfl)) (by decide) (backOf (W := 0) (rmtxt l Z a0 G1 hG [] b_213 T234.heap n0 Z239 O239 f251) hZ213 (W 101 rfl) (W 36 rfl) (by decide) (by decide)) q252a q252c (g := (mkF m 275 #[.val (.int p0), .val (.int p1), .val (.int p2), .val (.int p3), .val (.ref b_204), .val (.int vm_), .val (.ref b_206), .val (.int (1 : Int32)), .val (.ref b208), .val (.ref b_213), .val (.ref c_222), .val (.int (1 : Int32)), .val (.ref c_234), .val (.int (1 : Int32)), .val (.ref b_204), .val (.int (1 : Int32)), .val (.ref b_206), .val (.int (1 : Int32)), .val (.int (1 : Int32)), .unset] [(.ref b_213)])) rfl (by rw [hml]; rfl) (Steps.refl _) (argsL := []) (rest := []) (lenOf pd___Ljava_lang_String_ rfl) rfl (by show 2 * 0 + _ ≤ _; exact Nat.le_of_eq rfl) (hb hby at_275) (fun _ _ => ⟨rfl, eq250, (by decide : 19 + 0 ≤ _), (by decide : 57 + 0 ≤ _)⟩)
  dsimp only [Pt.U, Pt.locs, Pt.cells, Pt.slots] at X252 l252 y252 z252 st252 hQ252
  subst l252 y252 z252
  obtain ⟨rfl, N252q, eq252⟩ := hQ252
  have N252 := Fr.app N250 N252q
  obtain ⟨fs, hr, hrun, hended, hend⟩ := Jvm.Stand.leaveW (v := some (.int (1 : Int32))) X252 hSn213 (by rw [eq252]; exact hk239) (fun h => by rw [Bd.returns] at h; cases h)
  have hFin := R239.trans (CHv.at X252 hZ213 hEL R239.1)
  refine ⟨_, _, pre0 _ ?_, hrun, hended, _, _, rfl, ?_, ?_, own_mono hend (Nat.le_of_ble_eq_true rfl) (Nat.le_of_ble_eq_true rfl)⟩
  · show Steps p.tables e below (s₁.setTop (mkF m 0 #[.val (.int p0), .val (.int p1), .val (.int p2), .val (.int p3), .unset, .unset, .unset, .unset, .unset, .unset, .unset, .unset, .unset, .unset, .unset, .unset, .unset, .unset, .unset, .unset] [])) _
    refine XS.iloadN X0.here hx rfl (hb hby at_0) rfl ?_
    refine XS.iloadN X0.here hx rfl (hb hby at_1) rfl ?_
    refine XS.iconst X0.here hx rfl (hb hby at_2) ?_
    refine XS.iand X0.here hx rfl (hb hby at_3) rfl ?_
    refine st204.trans ?_
    show Steps p.tables e below (T204.setTop (mkF m 7 #[.val (.int p0), .val (.int p1), .val (.int p2), .val (.int p3), .unset, .unset, .unset, .unset, .unset, .unset, .unset, .unset, .unset, .unset, .unset, .unset, .unset, .unset, .unset, .unset] [(.ref b_204)])) _
    refine XS.astore X204.here hx rfl (hb hby at_7) rfl rfl (l' := #[.val (.int p0), .val (.int p1), .val (.int p2), .val (.int p3), .val (.ref b_204), .unset, .unset, .unset, .unset, .unset, .unset, .unset, .unset, .unset, .unset, .unset, .unset, .unset, .unset, .unset]) rfl ?_
    refine XS.iloadN X204.here hx rfl (hb hby at_9) rfl ?_
    refine XS.iconst X204.here hx rfl (hb hby at_10) ?_
    refine XS.iushr X204.here hx rfl (hb hby at_11) rfl ?_
    refine XS.bipush X204.here hx rfl (hb hby at_12) ?_
    refine XS.iand X204.here hx rfl (hb hby at_14) rfl ?_
    show Steps p.tables e below (T204.setTop (mkF m 15 #[.val (.int p0), .val (.int p1), .val (.int p2), .val (.int p3), .val (.ref b_204), .unset, .unset, .unset, .unset, .unset, .unset, .unset, .unset, .unset, .unset, .unset, .unset, .unset, .unset, .unset] [(.int (((p3.toUInt32 >>> ((2 : Int32) &&& 31).toUInt32).toInt32) &&& (7 : Int32)))])) _
    rw [← hvm]
    show Steps p.tables e below (T204.setTop (mkF m 15 #[.val (.int p0), .val (.int p1), .val (.int p2), .val (.int p3), .val (.ref b_204), .unset, .unset, .unset, .unset, .unset, .unset, .unset, .unset, .unset, .unset, .unset, .unset, .unset, .unset, .unset] [(.int vm_)])) _
    refine XS.istore X204.here hx rfl (hb hby at_15) rfl (l' := #[.val (.int p0), .val (.int p1), .val (.int p2), .val (.int p3), .val (.ref b_204), .val (.int vm_), .unset, .unset, .unset, .unset, .unset, .unset, .unset, .unset, .unset, .unset, .unset, .unset, .unset, .unset]) rfl ?_
    refine XS.iload X204.here hx rfl (hb hby at_17) rfl ?_
    refine XS.ifYes X204.here hx rfl (pc0 := 19) (pc' := 26) rfl (hb hby at_19) rfl ((if0 _ _).trans (feq ((by rw [hvm]; exact hm) : ¬ (vm_ = (0 : Int32)))).2) (by decide) (by decide) ?_
    refine XS.iloadN X204.here hx rfl (hb hby at_26) rfl ?_
    refine XS.iload X204.here hx rfl (hb hby at_27) rfl ?_
    refine XS.iconst X204.here hx rfl (hb hby at_29) ?_
    refine XS.iand X204.here hx rfl (hb hby at_30) rfl ?_
    refine st206.trans ?_
    show Steps p.tables e below (T206.setTop (mkF m 34 #[.val (.int p0), .val (.int p1), .val (.int p2), .val (.int p3), .val (.ref b_204), .val (.int vm_), .unset, .unset, .unset, .unset, .unset, .unset, .unset, .unset, .unset, .unset, .unset, .unset, .unset, .unset] [(.ref b_206)])) _
    refine XS.astore X206.here hx rfl (hb hby at_34) rfl rfl (l' := #[.val (.int p0), .val (.int p1), .val (.int p2), .val (.int p3), .val (.ref b_204), .val (.int vm_), .val (.ref b_206), .unset, .unset, .unset, .unset, .unset, .unset, .unset, .unset, .unset, .unset, .unset, .unset, .unset]) rfl ?_
    refine XS.iloadN X206.here hx rfl (hb hby at_36) rfl ?_
    refine XS.iconst X206.here hx rfl (hb hby at_37) ?_
    refine XS.iushr X206.here hx rfl (hb hby at_38) rfl ?_
    refine XS.bipush X206.here hx rfl (hb hby at_39) ?_
    refine XS.iand X206.here hx rfl (hb hby at_41) rfl ?_
    refine XS.iconst X206.here hx rfl (hb hby at_42) ?_
    refine iremM (g := (mkF m 43 #[.val (.int p0), .val (.int p1), .val (.int p2), .val (.int p3), .val (.ref b_204), .val (.int vm_), .val (.ref b_206), .unset, .unset, .unset, .unset, .unset, .unset, .unset, .unset, .unset, .unset, .unset, .unset, .unset] [(.int (5 : Int32)), (.int (((p3.toUInt32 >>> ((5 : Int32) &&& 31).toUInt32).toInt32) &&& (7 : Int32)))])) X206 hx rfl (hb hby at_43) rfl (by decide) ?_
    show Steps p.tables e below (T206.setTop (mkF m 44 #[.val (.int p0), .val (.int p1), .val (.int p2), .val (.int p3), .val (.ref b_204), .val (.int vm_), .val (.ref b_206), .unset, .unset, .unset, .unset, .unset, .unset, .unset, .unset, .unset, .unset, .unset, .unset, .unset] [(.int ((((p3.toUInt32 >>> ((5 : Int32) &&& 31).toUInt32).toInt32) &&& (7 : Int32)) % (5 : Int32)))])) _
    rw [hn]
    show Steps p.tables e below (T206.setTop (mkF m 44 #[.val (.int p0), .val (.int p1), .val (.int p2), .val (.int p3), .val (.ref b_204), .val (.int vm_), .val (.ref b_206), .unset, .unset, .unset, .unset, .unset, .unset, .unset, .unset, .unset, .unset, .unset, .unset, .unset] [(.int (1 : Int32))])) _
    refine XS.istore X206.here hx rfl (hb hby at_44) rfl (l' := #[.val (.int p0), .val (.int p1), .val (.int p2), .val (.int p3), .val (.ref b_204), .val (.int vm_), .val (.ref b_206), .val (.int (1 : Int32)), .unset, .unset, .unset, .unset, .unset, .unset, .unset, .unset, .unset, .unset, .unset, .unset]) rfl ?_
    refine XS.iload X206.here hx rfl (hb hby at_46) rfl ?_
    refine st208 _ ?_
    show Steps p.tables e below (T208.setTop (mkF m 50 #[.val (.int p0), .val (.int p1), .val (.int p2), .val (.int p3), .val (.ref b_204), .val (.int vm_), .val (.ref b_206), .val (.int (1 : Int32)), .unset, .unset, .unset, .unset, .unset, .unset, .unset, .unset, .unset, .unset, .unset, .unset] [(.ref b208)])) _
    refine XS.astore X208.here hx rfl (hb hby at_50) rfl rfl (l' := #[.val (.int p0), .val (.int p1), .val (.int p2), .val (.int p3), .val (.ref b_204), .val (.int vm_), .val (.ref b_206), .val (.int (1 : Int32)), .val (.ref b208), .unset, .unset, .unset, .unset, .unset, .unset, .unset, .unset, .unset, .unset, .unset]) rfl ?_
    refine XS.iload X208.here hx rfl (hb hby at_52) rfl ?_
    refine XS.ifNo X208.here hx rfl (hb hby at_54) rfl ((if0 _ _).trans (tlt (by decide : (0 : Int32) < (1 : Int32))).2.2.2) ?_
    refine XS.aload X208.here hx rfl (hb hby at_57) rfl rfl ?_
    refine XS.iconst X208.here hx rfl (hb hby at_59) ?_
    refine XS.iloadN X208.here hx rfl (hb hby at_60) rfl ?_
    refine XS.i2b X208.here hx rfl (hb hby at_61) rfl ?_
    refine st211 _ ?_
    show Steps p.tables e below (T211.setTop (mkF m 63 #[.val (.int p0), .val (.int p1), .val (.int p2), .val (.int p3), .val (.ref b_204), .val (.int vm_), .val (.ref b_206), .val (.int (1 : Int32)), .val (.ref b208), .unset, .unset, .unset, .unset, .unset, .unset, .unset, .unset, .unset, .unset, .unset] [])) _
    refine XS.iload X211.here hx rfl (hb hby at_63) rfl ?_
    refine XS.iconst X211.here hx rfl (hb hby at_65) ?_
    refine XS.icmpYes X211.here hx rfl (pc0 := 66) (pc' := 78) rfl (hb hby at_66) rfl (flt (by decide : ¬ ((1 : Int32) < (1 : Int32)))).2.2.2 (by decide) (by decide) ?_
    refine XS.iload X211.here hx rfl (hb hby at_78) rfl ?_
    refine XS.iconst X211.here hx rfl (hb hby at_80) ?_
    refine XS.icmpYes X211.here hx rfl (pc0 := 81) (pc' := 93) rfl (hb hby at_81) rfl (flt (by decide : ¬ ((2 : Int32) < (1 : Int32)))).2.2.2 (by decide) (by decide) ?_
    refine XS.iload X211.here hx rfl (hb hby at_93) rfl ?_
    refine XS.iconst X211.here hx rfl (hb hby at_95) ?_
    show Steps p.tables e below (T211.setTop (mkF m 96 #[.val (.int p0), .val (.int p1), .val (.int p2), .val (.int p3), .val (.ref b_204), .val (.int vm_), .val (.ref b_206), .val (.int (1 : Int32)), .val (.ref b208), .unset, .unset, .unset, .unset, .unset, .unset, .unset, .unset, .unset, .unset, .unset] [(.int (3 : Int32)), (.int (1 : Int32))])) _
    refine XS.icmpYes X211.here hx rfl (pc0 := 96) (pc' := 108) rfl (hb hby at_96) rfl (flt (by decide : ¬ ((3 : Int32) < (1 : Int32)))).2.2.2 (by decide) (by decide) ?_
    refine XS.aload X211.here hx rfl (hb hby at_108) rfl rfl ?_
    refine XS.aload X211.here hx rfl (hb hby at_110) rfl rfl ?_
    refine XS.aload X211.here hx rfl (hb hby at_112) rfl rfl ?_
    refine st213.trans ?_
    show Steps p.tables e below (T213.setTop (mkF m 117 #[.val (.int p0), .val (.int p1), .val (.int p2), .val (.int p3), .val (.ref b_204), .val (.int vm_), .val (.ref b_206), .val (.int (1 : Int32)), .val (.ref b208), .unset, .unset, .unset, .unset, .unset, .unset, .unset, .unset, .unset, .unset, .unset] [(.ref b_213)])) _
    refine XS.astore X213.here hx rfl (hb hby at_117) rfl rfl (l' := #[.val (.int p0), .val (.int p1), .val (.int p2), .val (.int p3), .val (.ref b_204), .val (.int vm_), .val (.ref b_206), .val (.int (1 : Int32)), .val (.ref b208), .val (.ref b_213), .unset, .unset, .unset, .unset, .unset, .unset, .unset, .unset, .unset, .unset]) rfl ?_
    refine XS.iload X213.here hx rfl (hb hby at_119) rfl ?_
    refine XS.ifNo X213.here hx rfl (hb hby at_121) rfl ((if0 _ _).trans (tlt (by decide : (0 : Int32) < (1 : Int32))).2.2.2) ?_
    refine XS.aload X213.here hx rfl (hb hby at_124) rfl rfl ?_
    refine XS.iconst X213.here hx rfl (hb hby at_126) ?_
    refine XS.aload X213.here hx rfl (hb hby at_127) rfl rfl ?_
    refine XS.iconst X213.here hx rfl (hb hby at_129) ?_
    refine X213.baloadBytes hx (j := (0 : Int32)) (v := (.int ((p2.toInt8.toInt32).toInt8.toInt32))) (own_cell rfl Arq218.1) (State.isArrayOf_alike hZ213.alike Arq218.2.1) Arq218.2.2 hinq218 hatq218 (g := (mkF m 130 #[.val (.int p0), .val (.int p1), .val (.int p2), .val (.int p3), .val (.ref b_204), .val (.int vm_), .val (.ref b_206), .val (.int (1 : Int32)), .val (.ref b208), .val (.ref b_213), .unset, .unset, .unset, .unset, .unset, .unset, .unset, .unset, .unset, .unset] [(.int (0 : Int32)), (.ref b208), (.int (0 : Int32)), (.ref b208)])) rfl rfl (hb hby at_130) _ ?_
    show Steps p.tables e below (T213.setTop (mkF m 131 #[.val (.int p0), .val (.int p1), .val (.int p2), .val (.int p3), .val (.ref b_204), .val (.int vm_), .val (.ref b_206), .val (.int (1 : Int32)), .val (.ref b208), .val (.ref b_213), .unset, .unset, .unset, .unset, .unset, .unset, .unset, .unset, .unset, .unset] [(.int ((p2.toInt8.toInt32).toInt8.toInt32)), (.int (0 : Int32)), (.ref b208)])) _
    refine XS.iconst X213.here hx rfl (hb hby at_131) ?_
    refine XS.ixor X213.here hx rfl (hb hby at_132) rfl ?_
    refine XS.i2b X213.here hx rfl (hb hby at_133) rfl ?_
    refine st220 _ ?_
    show Steps p.tables e below (T220.setTop (mkF m 135 #[.val (.int p0), .val (.int p1), .val (.int p2), .val (.int p3), .val (.ref b_204), .val (.int vm_), .val (.ref b_206), .val (.int (1 : Int32)), .val (.ref b208), .val (.ref b_213), .unset, .unset, .unset, .unset, .unset, .unset, .unset, .unset, .unset, .unset] [])) _
    refine XS.iload X220.here hx rfl (hb hby at_135) rfl ?_
    refine XS.iconst X220.here hx rfl (hb hby at_137) ?_
    refine XS.icmpYes X220.here hx rfl (pc0 := 138) (pc' := 152) rfl (hb hby at_138) rfl (flt (by decide : ¬ ((3 : Int32) < (1 : Int32)))).2.2.2 (by decide) (by decide) ?_
    refine XS.aload X220.here hx rfl (hb hby at_152) rfl rfl ?_
    refine st222.trans ?_
    show Steps p.tables e below (T222.setTop (mkF m 157 #[.val (.int p0), .val (.int p1), .val (.int p2), .val (.int p3), .val (.ref b_204), .val (.int vm_), .val (.ref b_206), .val (.int (1 : Int32)), .val (.ref b208), .val (.ref b_213), .unset, .unset, .unset, .unset, .unset, .unset, .unset, .unset, .unset, .unset] [(.ref c_222)])) _
    refine XS.astore X222.here hx rfl (hb hby at_157) rfl rfl (l' := #[.val (.int p0), .val (.int p1), .val (.int p2), .val (.int p3), .val (.ref b_204), .val (.int vm_), .val (.ref b_206), .val (.int (1 : Int32)), .val (.ref b208), .val (.ref b_213), .val (.ref c_222), .unset, .unset, .unset, .unset, .unset, .unset, .unset, .unset, .unset]) rfl ?_
    refine XS.aload X222.here hx rfl (hb hby at_159) rfl rfl ?_
    refine XS.iload X222.here hx rfl (hb hby at_161) rfl ?_
    refine XS.iloadN X222.here hx rfl (hb hby at_163) rfl ?_
    refine st228 _ ?_
    show Steps p.tables e below (T228.setTop (mkF m 167 #[.val (.int p0), .val (.int p1), .val (.int p2), .val (.int p3), .val (.ref b_204), .val (.int vm_), .val (.ref b_206), .val (.int (1 : Int32)), .val (.ref b208), .val (.ref b_213), .val (.ref c_222), .unset, .unset, .unset, .unset, .unset, .unset, .unset, .unset, .unset] [(.int (1 : Int32))])) _
    refine XS.istore X228.here hx rfl (hb hby at_167) rfl (l' := #[.val (.int p0), .val (.int p1), .val (.int p2), .val (.int p3), .val (.ref b_204), .val (.int vm_), .val (.ref b_206), .val (.int (1 : Int32)), .val (.ref b208), .val (.ref b_213), .val (.ref c_222), .val (.int (1 : Int32)), .unset, .unset, .unset, .unset, .unset, .unset, .unset, .unset]) rfl ?_
    refine XS.aload X228.here hx rfl (hb hby at_169) rfl rfl ?_
    refine XS.ifnullNo X228.here hx rfl (hb hby at_171) rfl ?_
    refine XS.aload X228.here hx rfl (hb hby at_174) rfl rfl ?_
    refine X228.arraylength hx (own_cell eq228 Arq229.1) (State.isArrayOf_alike hZ213.alike Arq229.2.1) (g := (mkF m 176 #[.val (.int p0), .val (.int p1), .val (.int p2), .val (.int p3), .val (.ref b_204), .val (.int vm_), .val (.ref b_206), .val (.int (1 : Int32)), .val (.ref b208), .val (.ref b_213), .val (.ref c_222), .val (.int (1 : Int32)), .unset, .unset, .unset, .unset, .unset, .unset, .unset, .unset] [(.ref c_222)])) rfl rfl (hb hby at_176) _ ?_
    rw [len_of Sq229 Nq229]
    refine XS.ifNo X228.here hx rfl (hb hby at_177) rfl ((if0 _ _).trans (tlt (by decide : (0 : Int32) < (1 : Int32))).2.2.2) ?_
    refine XS.aload X228.here hx rfl (hb hby at_180) rfl rfl ?_
    refine XS.iconst X228.here hx rfl (hb hby at_182) ?_
    show Steps p.tables e below (T228.setTop (mkF m 183 #[.val (.int p0), .val (.int p1), .val (.int p2), .val (.int p3), .val (.ref b_204), .val (.int vm_), .val (.ref b_206), .val (.int (1 : Int32)), .val (.ref b208), .val (.ref b_213), .val (.ref c_222), .val (.int (1 : Int32)), .unset, .unset, .unset, .unset, .unset, .unset, .unset, .unset] [(.int (0 : Int32)), (.ref c_222)])) _
    refine XS.aload X228.here hx rfl (hb hby at_183) rfl rfl ?_
    refine XS.iconst X228.here hx rfl (hb hby at_185) ?_
    refine X228.baloadBytes hx (j := (0 : Int32)) (v := (.int ((p2.toInt8.toInt32).toInt8.toInt32))) (own_cell eq228 Arq230.1) (State.isArrayOf_alike hZ213.alike Arq230.2.1) Arq230.2.2 hinq230 hatq230 (g := (mkF m 186 #[.val (.int p0), .val (.int p1), .val (.int p2), .val (.int p3), .val (.ref b_204), .val (.int vm_), .val (.ref b_206), .val (.int (1 : Int32)), .val (.ref b208), .val (.ref b_213), .val (.ref c_222), .val (.int (1 : Int32)), .unset, .unset, .unset, .unset, .unset, .unset, .unset, .unset] [(.int (0 : Int32)), (.ref c_222), (.int (0 : Int32)), (.ref c_222)])) rfl rfl (hb hby at_186) _ ?_
    refine XS.iconst X228.here hx rfl (hb hby at_187) ?_
    refine XS.ixor X228.here hx rfl (hb hby at_188) rfl ?_
    refine XS.i2b X228.here hx rfl (hb hby at_189) rfl ?_
    refine st232 _ ?_
    show Steps p.tables e below (T232.setTop (mkF m 191 #[.val (.int p0), .val (.int p1), .val (.int p2), .val (.int p3), .val (.ref b_204), .val (.int vm_), .val (.ref b_206), .val (.int (1 : Int32)), .val (.ref b208), .val (.ref b_213), .val (.ref c_222), .val (.int (1 : Int32)), .unset, .unset, .unset, .unset, .unset, .unset, .unset, .unset] [])) _
    refine XS.aload X232.here hx rfl (hb hby at_191) rfl rfl ?_
    refine st234.trans ?_
    show Steps p.tables e below (T234.setTop (mkF m 196 #[.val (.int p0), .val (.int p1), .val (.int p2), .val (.int p3), .val (.ref b_204), .val (.int vm_), .val (.ref b_206), .val (.int (1 : Int32)), .val (.ref b208), .val (.ref b_213), .val (.ref c_222), .val (.int (1 : Int32)), .unset, .unset, .unset, .unset, .unset, .unset, .unset, .unset] [(.ref c_234)])) _
    refine XS.astore X234.here hx rfl (hb hby at_196) rfl rfl (l' := #[.val (.int p0), .val (.int p1), .val (.int p2), .val (.int p3), .val (.ref b_204), .val (.int vm_), .val (.ref b_206), .val (.int (1 : Int32)), .val (.ref b208), .val (.ref b_213), .val (.ref c_222), .val (.int (1 : Int32)), .val (.ref c_234), .unset, .unset, .unset, .unset, .unset, .unset, .unset]) rfl ?_
    refine XS.aload X234.here hx rfl (hb hby at_198) rfl rfl ?_
    refine XS.iload X234.here hx rfl (hb hby at_200) rfl ?_
    refine XS.iloadN X234.here hx rfl (hb hby at_202) rfl ?_
    refine st240 _ ?_
    show Steps p.tables e below (T240.setTop (mkF m 206 #[.val (.int p0), .val (.int p1), .val (.int p2), .val (.int p3), .val (.ref b_204), .val (.int vm_), .val (.ref b_206), .val (.int (1 : Int32)), .val (.ref b208), .val (.ref b_213), .val (.ref c_222), .val (.int (1 : Int32)), .val (.ref c_234), .unset, .unset, .unset, .unset, .unset, .unset, .unset] [(.int (1 : Int32))])) _
    refine XS.istore X240.here hx rfl (hb hby at_206) rfl (l' := #[.val (.int p0), .val (.int p1), .val (.int p2), .val (.int p3), .val (.ref b_204), .val (.int vm_), .val (.ref b_206), .val (.int (1 : Int32)), .val (.ref b208), .val (.ref b_213), .val (.ref c_222), .val (.int (1 : Int32)), .val (.ref c_234), .val (.int (1 : Int32)), .unset, .unset, .unset, .unset, .unset, .unset]) rfl ?_
    refine XS.aload X240.here hx rfl (hb hby at_208) rfl rfl ?_
    refine st241.trans ?_
    show Steps p.tables e below (T241.setTop (mkF m 213 #[.val (.int p0), .val (.int p1), .val (.int p2), .val (.int p3), .val (.ref b_204), .val (.int vm_), .val (.ref b_206), .val (.int (1 : Int32)), .val (.ref b208), .val (.ref b_213), .val (.ref c_222), .val (.int (1 : Int32)), .val (.ref c_234), .val (.int (1 : Int32)), .unset, .unset, .unset, .unset, .unset, .unset] [(.ref b_204)])) _
    refine XS.astore X241.here hx rfl (hb hby at_213) rfl rfl (l' := #[.val (.int p0), .val (.int p1), .val (.int p2), .val (.int p3), .val (.ref b_204), .val (.int vm_), .val (.ref b_206), .val (.int (1 : Int32)), .val (.ref b208), .val (.ref b_213), .val (.ref c_222), .val (.int (1 : Int32)), .val (.ref c_234), .val (.int (1 : Int32)), .val (.ref b_204), .unset, .unset, .unset, .unset, .unset]) rfl ?_
    refine XS.aload X241.here hx rfl (hb hby at_215) rfl rfl ?_
    refine XS.aload X241.here hx rfl (hb hby at_217) rfl rfl ?_
    refine st244.trans ?_
    show Steps p.tables e below (T244.setTop (mkF m 222 #[.val (.int p0), .val (.int p1), .val (.int p2), .val (.int p3), .val (.ref b_204), .val (.int vm_), .val (.ref b_206), .val (.int (1 : Int32)), .val (.ref b208), .val (.ref b_213), .val (.ref c_222), .val (.int (1 : Int32)), .val (.ref c_234), .val (.int (1 : Int32)), .val (.ref b_204), .unset, .unset, .unset, .unset, .unset] [(.int (1 : Int32))])) _
    refine XS.istore X244.here hx rfl (hb hby at_222) rfl (l' := #[.val (.int p0), .val (.int p1), .val (.int p2), .val (.int p3), .val (.ref b_204), .val (.int vm_), .val (.ref b_206), .val (.int (1 : Int32)), .val (.ref b208), .val (.ref b_213), .val (.ref c_222), .val (.int (1 : Int32)), .val (.ref c_234), .val (.int (1 : Int32)), .val (.ref b_204), .val (.int (1 : Int32)), .unset, .unset, .unset, .unset]) rfl ?_
    refine XS.aload X244.here hx rfl (hb hby at_224) rfl rfl ?_
    refine st246.trans ?_
    show Steps p.tables e below (T246.setTop (mkF m 229 #[.val (.int p0), .val (.int p1), .val (.int p2), .val (.int p3), .val (.ref b_204), .val (.int vm_), .val (.ref b_206), .val (.int (1 : Int32)), .val (.ref b208), .val (.ref b_213), .val (.ref c_222), .val (.int (1 : Int32)), .val (.ref c_234), .val (.int (1 : Int32)), .val (.ref b_204), .val (.int (1 : Int32)), .unset, .unset, .unset, .unset] [(.ref b_206)])) _
    refine XS.astore X246.here hx rfl (hb hby at_229) rfl rfl (l' := #[.val (.int p0), .val (.int p1), .val (.int p2), .val (.int p3), .val (.ref b_204), .val (.int vm_), .val (.ref b_206), .val (.int (1 : Int32)), .val (.ref b208), .val (.ref b_213), .val (.ref c_222), .val (.int (1 : Int32)), .val (.ref c_234), .val (.int (1 : Int32)), .val (.ref b_204), .val (.int (1 : Int32)), .val (.ref b_206), .unset, .unset, .unset]) rfl ?_
    refine XS.aload X246.here hx rfl (hb hby at_231) rfl rfl ?_
    refine XS.ifnonnullYes X246.here hx rfl (pc0 := 233) (pc' := 249) rfl (hb hby at_233) rfl (by decide) (by decide) ?_
    refine XS.aload X246.here hx rfl (hb hby at_249) rfl rfl ?_
    refine XS.aload X246.here hx rfl (hb hby at_251) rfl rfl ?_
    refine st248.trans ?_
    show Steps p.tables e below (T248.setTop (mkF m 256 #[.val (.int p0), .val (.int p1), .val (.int p2), .val (.int p3), .val (.ref b_204), .val (.int vm_), .val (.ref b_206), .val (.int (1 : Int32)), .val (.ref b208), .val (.ref b_213), .val (.ref c_222), .val (.int (1 : Int32)), .val (.ref c_234), .val (.int (1 : Int32)), .val (.ref b_204), .val (.int (1 : Int32)), .val (.ref b_206), .unset, .unset, .unset] [(.int (1 : Int32))])) _
    refine XS.istore X248.here hx rfl (hb hby at_256) rfl (l' := #[.val (.int p0), .val (.int p1), .val (.int p2), .val (.int p3), .val (.ref b_204), .val (.int vm_), .val (.ref b_206), .val (.int (1 : Int32)), .val (.ref b208), .val (.ref b_213), .val (.ref c_222), .val (.int (1 : Int32)), .val (.ref c_234), .val (.int (1 : Int32)), .val (.ref b_204), .val (.int (1 : Int32)), .val (.ref b_206), .val (.int (1 : Int32)), .unset, .unset]) rfl ?_
    refine XS.aload X248.here hx rfl (hb hby at_258) rfl rfl ?_
    refine st250.trans ?_
    show Steps p.tables e below (T250.setTop (mkF m 263 #[.val (.int p0), .val (.int p1), .val (.int p2), .val (.int p3), .val (.ref b_204), .val (.int vm_), .val (.ref b_206), .val (.int (1 : Int32)), .val (.ref b208), .val (.ref b_213), .val (.ref c_222), .val (.int (1 : Int32)), .val (.ref c_234), .val (.int (1 : Int32)), .val (.ref b_204), .val (.int (1 : Int32)), .val (.ref b_206), .val (.int (1 : Int32)), .unset, .unset] [(.int (0 : Int32))])) _
    refine XS.ifNo X250.here hx rfl (hb hby at_263) rfl ((if0 _ _).trans (teq (by decide : (0 : Int32) = (0 : Int32))).2) ?_
    refine XS.iconst X250.here hx rfl (hb hby at_266) ?_
    refine XS.goto X250.here hx rfl (pc0 := 267) (pc' := 271) rfl (hb hby at_267) (by decide) (by decide) ?_
    refine XS.istore X250.here hx rfl (hb hby at_271) rfl (l' := #[.val (.int p0), .val (.int p1), .val (.int p2), .val (.int p3), .val (.ref b_204), .val (.int vm_), .val (.ref b_206), .val (.int (1 : Int32)), .val (.ref b208), .val (.ref b_213), .val (.ref c_222), .val (.int (1 : Int32)), .val (.ref c_234), .val (.int (1 : Int32)), .val (.ref b_204), .val (.int (1 : Int32)), .val (.ref b_206), .val (.int (1 : Int32)), .val (.int (1 : Int32)), .unset]) rfl ?_
    refine XS.aload X250.here hx rfl (hb hby at_273) rfl rfl ?_
    refine st252.trans ?_
    show Steps p.tables e below (T252.setTop (mkF m 278 #[.val (.int p0), .val (.int p1), .val (.int p2), .val (.int p3), .val (.ref b_204), .val (.int vm_), .val (.ref b_206), .val (.int (1 : Int32)), .val (.ref b208), .val (.ref b_213), .val (.ref c_222), .val (.int (1 : Int32)), .val (.ref c_234), .val (.int (1 : Int32)), .val (.ref b_204), .val (.int (1 : Int32)), .val (.ref b_206), .val (.int (1 : Int32)), .val (.int (1 : Int32)), .unset] [.null])) _
    refine XS.ifnonnullNo X252.here hx rfl (hb hby at_278) rfl ?_
    refine XS.iconst X252.here hx rfl (hb hby at_281) ?_
    refine XS.goto X252.here hx rfl (pc0 := 282) (pc' := 286) rfl (hb hby at_282) (by decide) (by decide) ?_
    refine XS.istore X252.here hx rfl (hb hby at_286) rfl (l' := #[.val (.int p0), .val (.int p1), .val (.int p2), .val (.int p3), .val (.ref b_204), .val (.int vm_), .val (.ref b_206), .val (.int (1 : Int32)), .val (.ref b208), .val (.ref b_213), .val (.ref c_222), .val (.int (1 : Int32)), .val (.ref c_234), .val (.int (1 : Int32)), .val (.ref b_204), .val (.int (1 : Int32)), .val (.ref b_206), .val (.int (1 : Int32)), .val (.int (1 : Int32)), .val (.int (1 : Int32))]) rfl ?_
    refine XS.iload X252.here hx rfl (hb hby at_288) rfl ?_
    refine XS.ifNo X252.here hx rfl (hb hby at_290) rfl ((if0 _ _).trans (feq (by decide : ¬ ((1 : Int32) = (0 : Int32)))).1) ?_
    refine XS.iload X252.here hx rfl (hb hby at_293) rfl ?_
    refine XS.ifNo X252.here hx rfl (hb hby at_295) rfl ((if0 _ _).trans (feq (by decide : ¬ ((1 : Int32) = (0 : Int32)))).1) ?_
    show Steps p.tables e below (T252.setTop (mkF m 298 #[.val (.int p0), .val (.int p1), .val (.int p2), .val (.int p3), .val (.ref b_204), .val (.int vm_), .val (.ref b_206), .val (.int (1 : Int32)), .val (.ref b208), .val (.ref b_213), .val (.ref c_222), .val (.int (1 : Int32)), .val (.ref c_234), .val (.int (1 : Int32)), .val (.ref b_204), .val (.int (1 : Int32)), .val (.ref b_206), .val (.int (1 : Int32)), .val (.int (1 : Int32)), .val (.int (1 : Int32))] [])) _
    refine XS.iload X252.here hx rfl (hb hby at_298) rfl ?_
    refine XS.ifNo X252.here hx rfl (hb hby at_300) rfl ((if0 _ _).trans (feq (by decide : ¬ ((1 : Int32) = (0 : Int32)))).1) ?_
    refine XS.iload X252.here hx rfl (hb hby at_303) rfl ?_
    refine XS.ifNo X252.here hx rfl (hb hby at_305) rfl ((if0 _ _).trans (feq (by decide : ¬ ((1 : Int32) = (0 : Int32)))).1) ?_
    refine XS.iload X252.here hx rfl (hb hby at_308) rfl ?_
    refine XS.ifNo X252.here hx rfl (hb hby at_310) rfl ((if0 _ _).trans (feq (by decide : ¬ ((1 : Int32) = (0 : Int32)))).1) ?_
    refine XS.iload X252.here hx rfl (hb hby at_313) rfl ?_
    refine XS.ifNo X252.here hx rfl (hb hby at_315) rfl ((if0 _ _).trans (feq (by decide : ¬ ((1 : Int32) = (0 : Int32)))).1) ?_
    show Steps p.tables e below (T252.setTop (mkF m 318 #[.val (.int p0), .val (.int p1), .val (.int p2), .val (.int p3), .val (.ref b_204), .val (.int vm_), .val (.ref b_206), .val (.int (1 : Int32)), .val (.ref b208), .val (.ref b_213), .val (.ref c_222), .val (.int (1 : Int32)), .val (.ref c_234), .val (.int (1 : Int32)), .val (.ref b_204), .val (.int (1 : Int32)), .val (.ref b_206), .val (.int (1 : Int32)), .val (.int (1 : Int32)), .val (.int (1 : Int32))] [])) _
    refine XS.iconst X252.here hx rfl (hb hby at_318) ?_
    refine XS.goto X252.here hx rfl (pc0 := 319) (pc' := 323) rfl (hb hby at_319) (by decide) (by decide) ?_
    exact retN X252 hx (t := .boolean) Bd.returns (by simp) (hb hby at_323) hr
  · show Q0 Z G1 p0 p1 p2 p3 h0 n0 _ T252.heap _
    rw [eq252]
    exact ⟨rfl, N252, K0_239⟩
  · show CHr Z own_EL s.vm s.heap T252.vm T252.heap
    rw [hh, eq252]
    exact hFin
set_option maxRecDepth 65536 in
set_option maxHeartbeats 40000000 in
theorem rm0_1f (l : Launch) (Z : State) (a0 : Array Value) (G1 : Int32) (hG : Glob Z a0 G1) (ws : List Jvm.Cond) (p0 : Int32) (p1 : Int32) (p2 : Int32) (p3 : Int32) (h0 : Heap) (n0 : Nat) (Z0 : n0 ≤ h0.size) (X00 : Old Z n0 h0) (hn : ((((p3.toUInt32 >>> ((5 : Int32) &&& 31).toUInt32).toInt32) &&& (7 : Int32)) % (5 : Int32)) = (1 : Int32)) (hm : (((p3.toUInt32 >>> ((2 : Int32) &&& 31).toUInt32).toInt32) &&& (7 : Int32)) = (0 : Int32)) :
    MetFree l x (head1 (Jvm.Cond.code x code maxLocals ret :: ws) room_1) (fun a U => a = #[(.int p0), (.int p1), (.int p2), (.int p3)] ∧ Z.Warmed39 U.vm ∧ U.heap = h0 ∧ CHv Z own_EL U.vm h0) (fun _ _ _ _ _ => True) (fun _ U o U' => ∃ v L, o = .returned v ∧ Q0 Z G1 p0 p1 p2 p3 h0 n0 v U'.heap L ∧ CHr Z own_EL U.vm U.heap U'.vm U'.heap ∧ ReturnedEndW U o U' L room_1.cells room_1.slots) := by
  obtain ⟨hw, O_cs, P_cs⟩ := id hG
  have W : ∀ (i : Nat) {d : Jvm.Cond}, tables_1[i]? = some d → d.before a0 Z = true := fun i d h => hw d (List.mem_of_getElem? h)
  refine MetFree.of_bodySF (plainFor_of_name pn_com_example_larkbridge_larkbridge_mcp_McpResourceContentsBinaryPinLaw) hisR ?_
  intro p e s m args below meth c s₁ Bd hml0 hP hK
  obtain ⟨rfl, hZ, hh, hCH⟩ := hP
  have hx := Bd.exec
  have hby := Bd.bytes
  have hml : c.maxLocals = 20 := hml0
  have hown : s.vm.findClass "com/example/larkbridge/larkbridge/mcp/McpResourceContentsBinaryPinLaw" = some m.cls := findClass_of_methodNamed Bd.named
  have hnm := (name_of_methodNamed Bd.named Bd.method).1
  have X0 : Stand p l e room_1 (s.setVm s.vm) m #[(.int p0), (.int p1), (.int p2), (.int p3)] below meth c s₁ [] 0 0 := Stand.of_body Bd
  have e0 : s₁.heap = h0 := by rw [← hh, Bd.state]; rfl
  have hS0 : s.Since s.vm h0.size := (State.WarmedH.refl s).since _
  have hk0 : h0.size ≤ h0.size := Nat.le_refl _
  have R0 : CHr Z own_EL s.vm h0 s.vm h0 := CHr.refl hCH
  have hEL := own_ew hw
  have N0 := Fr.nil n0
  have pre0 : ∀ t, Steps p.tables e below (s₁.setTop (mkF m 0 #[.val (.int p0), .val (.int p1), .val (.int p2), .val (.int p3), .unset, .unset, .unset, .unset, .unset, .unset, .unset, .unset, .unset, .unset, .unset, .unset, .unset, .unset, .unset, .unset] [])) t → Steps p.tables e below (s₁.setTop (entryFrame m #[(.int p0), (.int p1), (.int p2), (.int p3)] maxLocals)) t := fun t kk_ => castTop (ef_code_IIII m p0 p1 p2 p3) kk_
  -- pc 4: com/example/larkbridge/larkbridge/mcp/McpResourceContentsBinaryPinLaw.str
  obtain ⟨_, _, ⟨T253, L253, k253, n253⟩, -, X253, hS253, hG253, ⟨Lc253, hQ253, l253, y253, z253, hC253⟩, st253⟩ := callSS X0 hx (y := y3) hown (mvT hZ (W 0 rfl)) (mvT hZ (W 1 rfl)) (mvT hZ (W 2 rfl)) (mvT hZ (W 3 rfl)) (by decide) (backOfSH (s := s) (W := 0) (rmstr l Z a0 G1 hG [] p0 (p3 &&& (3 : Int32)) h0 n0 Z0 X00) hZ (W 3 rfl) (W 2 rfl) (by decide) (by decide) hEL R0.1) (g := (mkF m 4 #[.val (.int p0), .val (.int p1), .val (.int p2), .val (.int p3), .unset, .unset, .unset, .unset, .unset, .unset, .unset, .unset, .unset, .unset, .unset, .unset, .unset, .unset, .unset, .unset] [(.int (p3 &&& (3 : Int32))), (.int p0)])) rfl (by rw [hml]; rfl) (argsL := [(.int p0), (.int (p3 &&& (3 : Int32)))]) (rest := []) (lenOf pd__II_Ljava_lang_String_ rfl) rfl (by show 2 * 0 + _ ≤ _; exact Nat.le_of_eq rfl) (hb hby at_4) (fun _ _ => ⟨rfl, e0, (by decide : 0 + 6 ≤ _), (by decide : 0 + 12 ≤ _)⟩)
  dsimp only [Pt.U, Pt.locs, Pt.cells, Pt.slots] at X253 l253 y253 z253 st253 hQ253 hS253 hG253 hC253
  subst l253 y253 z253
  have hZ253 : Z.Warmed39 T253.vm := State.Warmed39.trans (t := s.setVm s.vm) hZ hS253.1
  have hw253 : T253.vm.findClass "com/example/larkbridge/larkbridge/mcp/McpResourceContentsBinaryPinLaw" = some m.cls := by rw [hS253.1.alike.findClass]; exact hown
  have hSn253 : s.Since T253.vm T253.heap.size := hS0.trans hS253 (Nat.le_trans hk0 (by have q := hG253; rw [e0] at q; exact q))
  have X253 : Stand p l e _ (s.setVm T253.vm) m _ below meth c T253 _ _ _ := X253
  obtain ⟨b_253, rfl, N253q, K253, f253_0, f253_1⟩ := hQ253
  have N253 := Fr.app N0 N253q
  have Z254 : n0 ≤ T253.heap.size := Nat.le_trans Z0 K253.1
  have K0_254 : Keep h0 T253.heap [] := (Keep.refl h0 []).trans K253 all0
  have O254 : Old Z n0 T253.heap := X00.keep K253 all0
  have hkw253 : T253.heap.size ≤ T253.heap.size := Nat.le_refl _
  have Rb253 : CHr Z own_EL s.vm h0 T253.vm T253.heap := R0.trans hC253
  have lo_b_253 : h0.size ≤ b_253 := f253_0
  have g_b_253 : n0 ≤ b_253 := Nat.le_trans Z0 lo_b_253
  have l0_b_253 : h0.size ≤ b_253 := Nat.le_trans (Keep.refl h0 []).1 lo_b_253
  obtain ⟨vm_, hvm⟩ : ∃ z : Int32, z = (((p3.toUInt32 >>> ((2 : Int32) &&& 31).toUInt32).toInt32) &&& (7 : Int32)) := ⟨_, rfl⟩
  obtain ⟨T255, h255, k255, X255, e255, E255, A255, Q255, st255⟩ := newPE X253 hx hZ253 (W 23 rfl) rfl (g := (mkF m 48 #[.val (.int p0), .val (.int p1), .val (.int p2), .val (.int p3), .val (.ref b_253), .val (.int vm_), .val .null, .val (.int (1 : Int32)), .unset, .unset, .unset, .unset, .unset, .unset, .unset, .unset, .unset, .unset, .unset, .unset] [(.int (1 : Int32))])) rfl (hb hby at_48) rfl (by decide) (cap := 1) (by decide) (by decide) (by decide) (by decide) (ad := "[B") rfl
  obtain ⟨b255, g255⟩ : ∃ z, z = T253.heap.size := ⟨_, rfl⟩
  rw [← g255] at A255 Q255 st255
  have Z256 : n0 ≤ h255.size := Nat.le_trans Z254 E255.1
  have K0_256 : Keep h0 h255 [] := K0_254.ext E255
  have O256 : Old Z n0 h255 := O254.ext E255
  have R256 : CHr Z own_EL s.vm h0 T253.vm h255 := Rb253.trans (CHr.ext E255 Rb253.1)
  have hk256 : T253.heap.size ≤ h255.size := Nat.le_trans hkw253 E255.1
  have lo_b255 : T253.heap.size ≤ b255 := Nat.le_of_eq g255.symm
  have g_b255 : n0 ≤ b255 := Nat.le_trans Z254 lo_b255
  have l0_b255 : h0.size ≤ b255 := Nat.le_trans K0_254.1 lo_b255
  have sfb255 : Safe Z own_EL T253.vm h255 b255 := Safe.ext E255 Rb253.1 (Safe.new lo_b255)
  have V_b255 : Arv Z h255 b255 k255 .byte (1 : Int32) [(.int (0 : Int32))] (.int (0 : Int32)) := (Arv.new A255 (by decide)).pad (pad_rep [] (.int (0 : Int32)) 1)
  obtain ⟨clq257, Arq257, qaq257, Sq257, Nq257, Hq257, Gq257⟩ := id V_b255
  have hinq257 : ¬ ((0 : Int32) < 0 ∨ clq257.slots.size ≤ ((0 : Int32)).toNatClampNeg) := inb_of Sq257 ⟨by decide, by decide⟩
  obtain ⟨T258, h258, X258, e258, W258, st258⟩ := stB X255 hx hZ253 e255 Arq257 (j := (0 : Int32)) hinq257 (g := (mkF m 62 #[.val (.int p0), .val (.int p1), .val (.int p2), .val (.int p3), .val (.ref b_253), .val (.int vm_), .val .null, .val (.int (1 : Int32)), .val (.ref b255), .unset, .unset, .unset, .unset, .unset, .unset, .unset, .unset, .unset, .unset, .unset] [(.int (p2.toInt8.toInt32)), (.int (0 : Int32)), (.ref b255)])) rfl rfl (hb hby at_62)
  have V258 : Arv Z h258 b255 k255 .byte (1 : Int32) [(.int ((p2.toInt8.toInt32).toInt8.toInt32))] (.int (0 : Int32)) := Arv.set Arq257 qaq257 Sq257 Nq257 Hq257 Gq257 (fits_nar_byte _) W258 0 rfl (Nat.le_of_ble_eq_true rfl)
  have Z259 : n0 ≤ h258.size := Nat.le_trans Z256 (Keep.of_wr W258).1
  have K0_259 : Keep h0 h258 [] := K0_256.wr W258 (Or.inr l0_b255)
  have O259 : Old Z n0 h258 := O256.wr W258 g_b255
  have R259 : CHr Z own_EL s.vm h0 T253.vm h258 := R256.trans (CHr.wr W258 sfb255 R256.1)
  have hk259 : T253.heap.size ≤ h258.size := Nat.le_trans hk256 (Keep.of_wr W258).1
  have sf259_b255 : Safe Z own_EL T253.vm h258 b255 := Safe.wr W258 sfb255 R256.1 sfb255
  have N258 := Fr.snoc X258 N253 g_b255
  have f261 := ((f253_1.ext E255).wr W258)
  have f262 := (Q255.wr W258)
  -- pc 114: com/example/larkbridge/larkbridge/mcp/McpResourceContents.binary
  obtain ⟨_, _, ⟨T260, L260, k260, n260⟩, -, X260, hS260, hG260, ⟨Lc260, hQ260, l260, y260, z260, hC260⟩, st260⟩ := callSS X258 hx (y := y5) hw253 (mvT hZ253 (W 34 rfl)) (mvT hZ253 (W 35 rfl)) (mvT hZ253 (W 36 rfl)) (mvT hZ253 (W 37 rfl)) (by decide) (backOfSH (s := s) (W := 0) (rmmcb l Z a0 G1 hG [] b_253 .null b255 k255 (1 : Int32) ([(.int ((p2.toInt8.toInt32).toInt8.toInt32))] : List Value) h258 n0 Z259 O259 f261 f262 V258 rfl (by decide)) hZ253 (W 37 rfl) (W 36 rfl) (by decide) (by decide) hEL R259.1) (g := (mkF m 114 #[.val (.int p0), .val (.int p1), .val (.int p2), .val (.int p3), .val (.ref b_253), .val (.int vm_), .val .null, .val (.int (1 : Int32)), .val (.ref b255), .unset, .unset, .unset, .unset, .unset, .unset, .unset, .unset, .unset, .unset, .unset] [(.ref b255), .null, (.ref b_253)])) rfl (by rw [hml]; rfl) (argsL := [(.ref b_253), .null, (.ref b255)]) (rest := []) (lenOf pd__Ljava_lang_String_Ljava_lang_String__B_Lcom_example_larkbridge_larkbridge_mcp_McpResourceContents_ rfl) rfl (by show 2 * 0 + _ ≤ _; exact Nat.le_of_eq rfl) (hb hby at_114) (fun _ _ => ⟨rfl, e258, (by decide : 7 + 4 ≤ _), (by decide : 13 + 24 ≤ _)⟩)
  dsimp only [Pt.U, Pt.locs, Pt.cells, Pt.slots] at X260 l260 y260 z260 st260 hQ260 hS260 hG260 hC260
  subst l260 y260 z260
  have hZ260 : Z.Warmed39 T260.vm := State.Warmed39.trans (t := s.setVm T253.vm) hZ253 hS260.1
  have hw260 : T260.vm.findClass "com/example/larkbridge/larkbridge/mcp/McpResourceContentsBinaryPinLaw" = some m.cls := by rw [hS260.1.alike.findClass]; exact hw253
  have hSn260 : s.Since T260.vm T260.heap.size := hSn253.trans hS260 (Nat.le_trans hk259 (by have q := hG260; rw [e258] at q; exact q))
  have X260 : Stand p l e _ (s.setVm T260.vm) m _ below meth c T260 _ _ _ := X260
  obtain ⟨b_260, c_260, rfl, N260q, K260, f260_0, f260_1, f260_2, f260_3, f260_4, f260_5, f260_6, f260_7, f260_8⟩ := hQ260
  have N260 := Fr.app N258 N260q
  have Z263 : n0 ≤ T260.heap.size := Nat.le_trans Z259 K260.1
  have K0_263 : Keep h0 T260.heap [] := K0_259.trans K260 all0
  have O263 : Old Z n0 T260.heap := O259.keep K260 all0
  have hkw260 : T260.heap.size ≤ T260.heap.size := Nat.le_refl _
  have sfw263_b255 : Safe Z own_EL T260.vm T260.heap b255 := hC260.safe f262.lt sf259_b255
  have Rb260 : CHr Z own_EL s.vm h0 T260.vm T260.heap := R259.trans hC260
  have lo_b_260 : h258.size ≤ b_260 := f260_0
  have g_b_260 : n0 ≤ b_260 := Nat.le_trans Z259 lo_b_260
  have l0_b_260 : h0.size ≤ b_260 := Nat.le_trans K0_259.1 lo_b_260
  have lo_c_260 : h258.size ≤ c_260 := f260_1
  have g_c_260 : n0 ≤ c_260 := Nat.le_trans Z259 lo_c_260
  have l0_c_260 : h0.size ≤ c_260 := Nat.le_trans K0_259.1 lo_c_260
  have f264 := (V258.keep K260 nin0)
  obtain ⟨clq265, Arq265, qaq265, Sq265, Nq265, Hq265, Gq265⟩ := id f264
  have hinq265 : ¬ ((0 : Int32) < 0 ∨ clq265.slots.size ≤ ((0 : Int32)).toNatClampNeg) := inb_of Sq265 ⟨by decide, by decide⟩
  have hatq265 : clq265.slots[((0 : Int32)).toNatClampNeg]? = some (.int ((p2.toInt8.toInt32).toInt8.toInt32)) := Has.at Hq265 hinq265 rfl
  obtain ⟨clq266, Arq266, qaq266, Sq266, Nq266, Hq266, Gq266⟩ := id f264
  have hinq266 : ¬ ((0 : Int32) < 0 ∨ clq266.slots.size ≤ ((0 : Int32)).toNatClampNeg) := inb_of Sq266 ⟨by decide, by decide⟩
  obtain ⟨T267, h267, X267, e267, W267, st267⟩ := stB X260 hx hZ260 rfl Arq266 (j := (0 : Int32)) hinq266 (g := (mkF m 134 #[.val (.int p0), .val (.int p1), .val (.int p2), .val (.int p3), .val (.ref b_253), .val (.int vm_), .val .null, .val (.int (1 : Int32)), .val (.ref b255), .val (.ref b_260), .unset, .unset, .unset, .unset, .unset, .unset, .unset, .unset, .unset, .unset] [(.int ((((p2.toInt8.toInt32).toInt8.toInt32) ^^^ (-1 : Int32)).toInt8.toInt32)), (.int (0 : Int32)), (.ref b255)])) rfl rfl (hb hby at_134)
  have V267 : Arv Z h267 b255 k255 .byte (1 : Int32) [(.int (((((p2.toInt8.toInt32).toInt8.toInt32) ^^^ (-1 : Int32)).toInt8.toInt32).toInt8.toInt32))] (.int (0 : Int32)) := Arv.set Arq266 qaq266 Sq266 Nq266 Hq266 Gq266 (fits_nar_byte _) W267 0 rfl (Nat.le_of_ble_eq_true rfl)
  have Z268 : n0 ≤ h267.size := Nat.le_trans Z263 (Keep.of_wr W267).1
  have K0_268 : Keep h0 h267 [] := K0_263.wr W267 (Or.inr l0_b255)
  have O268 : Old Z n0 h267 := O263.wr W267 g_b255
  have R268 : CHr Z own_EL s.vm h0 T260.vm h267 := Rb260.trans (CHr.wr W267 sfw263_b255 Rb260.1)
  have hk268 : T260.heap.size ≤ h267.size := Nat.le_trans hkw260 (Keep.of_wr W267).1
  have sf268_b255 : Safe Z own_EL T260.vm h267 b255 := Safe.wr W267 sfw263_b255 Rb260.1 sfw263_b255
  have N267 := Fr.snoc X267 N260 g_b255
  have f270 := (f260_8.other W267 (Or.inl (Ne.symm (Nat.ne_of_lt (Nat.lt_of_lt_of_le f262.lt lo_b_260)))))
  have f271 := (f260_3.wr W267)
  have f272 := (f260_4.other W267 (Ne.symm (Nat.ne_of_lt (Nat.lt_of_lt_of_le f262.lt lo_c_260))))
  have f273 := (f260_2.wr W267)
  obtain ⟨cq269, kq269, q269a, q269b, q269c⟩ := isOf hZ260 e267 f273
  -- pc 154: com/example/larkbridge/larkbridge/mcp/McpResourceContents.bytes
  obtain ⟨_, _, ⟨T269, L269, k269, n269⟩, -, X269, ⟨Lc269, hQ269, l269, y269, z269⟩, st269⟩ := X267.virtualBack hx (y := y6) (z := y6) hw260 (mvT hZ260 (W 69 rfl)) (mvT hZ260 (W 70 rfl)) (notFace_of_selects (args := #[]) (mvT hZ260 (W 72 rfl))) (mvT hZ260 (W 72 rfl)) (mvT hZ260 (W 71 rfl)) (by decide) (backOf (W := 0) (rmbyt l Z a0 G1 hG [] b_260 c_260 k255 (1 : Int32) ([(.int ((p2.toInt8.toInt32).toInt8.toInt32))] : List Value) h267 n0 Z268 O268 f270 f271 f272 (by decide)) hZ260 (W 73 rfl) (W 36 rfl) (by decide) (by decide)) q269a q269c (g := (mkF m 154 #[.val (.int p0), .val (.int p1), .val (.int p2), .val (.int p3), .val (.ref b_253), .val (.int vm_), .val .null, .val (.int (1 : Int32)), .val (.ref b255), .val (.ref b_260), .unset, .unset, .unset, .unset, .unset, .unset, .unset, .unset, .unset, .unset] [(.ref b_260)])) rfl (by rw [hml]; rfl) (Steps.refl _) (argsL := []) (rest := []) (lenOf pd____B rfl) rfl (by show 2 * 0 + _ ≤ _; exact Nat.le_of_eq rfl) (hb hby at_154) (fun _ _ => ⟨rfl, e267, (by decide : 11 + 1 ≤ _), (by decide : 37 + 4 ≤ _)⟩)
  dsimp only [Pt.U, Pt.locs, Pt.cells, Pt.slots] at X269 l269 y269 z269 st269 hQ269
  subst l269 y269 z269
  obtain ⟨c_269, rfl, N269q, K269, f269_0, f269_1, f269_2⟩ := hQ269
  have N269 := Fr.app N267 N269q
  have Z274 : n0 ≤ T269.heap.size := Nat.le_trans Z268 K269.1
  have K0_274 : Keep h0 T269.heap [] := K0_268.trans K269 all0
  have O274 : Old Z n0 T269.heap := O268.keep K269 all0
  have R274 : CHr Z own_EL s.vm h0 T260.vm T269.heap := R268.trans (CHr.keep K269 sf0 R268.1)
  have hk274 : T260.heap.size ≤ T269.heap.size := Nat.le_trans hk268 K269.1
  have sf274_b255 : Safe Z own_EL T260.vm T269.heap b255 := Safe.keep K269 sf0 R268.1 sf268_b255
  have lo_c_269 : h267.size ≤ c_269 := f269_0
  have g_c_269 : n0 ≤ c_269 := Nat.le_trans Z268 lo_c_269
  have l0_c_269 : h0.size ≤ c_269 := Nat.le_trans K0_268.1 lo_c_269
  have sfc269 : Safe Z own_EL T260.vm T269.heap c_269 := Safe.keep K269 sf0 R268.1 (Safe.new lo_c_269)
  -- pc 164: com/example/larkbridge/larkbridge/mcp/McpResourceContentsBinaryPinLaw.same
  obtain ⟨_, _, ⟨T275, L275, k275, n275⟩, -, X275, ⟨Lc275, hQ275, l275, y275, z275⟩, st275⟩ := Jvm.LawKit.callS X269 hx (y := y12) hw260 (mvT hZ260 (W 74 rfl)) (mvT hZ260 (W 75 rfl)) (mvT hZ260 (W 2 rfl)) (mvT hZ260 (W 76 rfl)) (by decide) (backOf (W := 0) (rmsame1 l Z a0 G1 hG [] c_269 p2 k255 T269.heap n0 Z274 O274 f269_2) hZ260 (W 76 rfl) (W 2 rfl) (by decide) (by decide)) (g := (mkF m 164 #[.val (.int p0), .val (.int p1), .val (.int p2), .val (.int p3), .val (.ref b_253), .val (.int vm_), .val .null, .val (.int (1 : Int32)), .val (.ref b255), .val (.ref b_260), .val (.ref c_269), .unset, .unset, .unset, .unset, .unset, .unset, .unset, .unset, .unset] [(.int p2), (.int (1 : Int32)), (.ref c_269)])) rfl (by rw [hml]; rfl) (argsL := [(.ref c_269), (.int (1 : Int32)), (.int p2)]) (rest := []) (lenOf pd___BII_Z rfl) rfl (by show 2 * 0 + _ ≤ _; exact Nat.le_of_eq rfl) (hb hby at_164) (fun _ _ => ⟨rfl, rfl, (by decide : 12 + 0 ≤ _), (by decide : 41 + 0 ≤ _)⟩)
  dsimp only [Pt.U, Pt.locs, Pt.cells, Pt.slots] at X275 l275 y275 z275 st275 hQ275
  subst l275 y275 z275
  obtain ⟨rfl, N275q, eq275⟩ := hQ275
  have N275 := Fr.app N269 N275q
  obtain ⟨clq276, Arq276, qaq276, Sq276, Nq276, Hq276, Gq276⟩ := id f269_2
  obtain ⟨clq277, Arq277, qaq277, Sq277, Nq277, Hq277, Gq277⟩ := id f269_2
  have hinq277 : ¬ ((0 : Int32) < 0 ∨ clq277.slots.size ≤ ((0 : Int32)).toNatClampNeg) := inb_of Sq277 ⟨by decide, by decide⟩
  have hatq277 : clq277.slots[((0 : Int32)).toNatClampNeg]? = some (.int ((p2.toInt8.toInt32).toInt8.toInt32)) := Has.at Hq277 hinq277 rfl
  obtain ⟨clq278, Arq278, qaq278, Sq278, Nq278, Hq278, Gq278⟩ := id f269_2
  have hinq278 : ¬ ((0 : Int32) < 0 ∨ clq278.slots.size ≤ ((0 : Int32)).toNatClampNeg) := inb_of Sq278 ⟨by decide, by decide⟩
  obtain ⟨T279, h279, X279, e279, W279, st279⟩ := stB X275 hx hZ260 eq275 Arq278 (j := (0 : Int32)) hinq278 (g := (mkF m 190 #[.val (.int p0), .val (.int p1), .val (.int p2), .val (.int p3), .val (.ref b_253), .val (.int vm_), .val .null, .val (.int (1 : Int32)), .val (.ref b255), .val (.ref b_260), .val (.ref c_269), .val (.int (1 : Int32)), .unset, .unset, .unset, .unset, .unset, .unset, .unset, .unset] [(.int ((((p2.toInt8.toInt32).toInt8.toInt32) ^^^ (-1 : Int32)).toInt8.toInt32)), (.int (0 : Int32)), (.ref c_269)])) rfl rfl (hb hby at_190)
  have V279 : Arv Z h279 c_269 k255 .byte (1 : Int32) [(.int (((((p2.toInt8.toInt32).toInt8.toInt32) ^^^ (-1 : Int32)).toInt8.toInt32).toInt8.toInt32))] (.int (0 : Int32)) := Arv.set Arq278 qaq278 Sq278 Nq278 Hq278 Gq278 (fits_nar_byte _) W279 0 rfl (Nat.le_of_ble_eq_true rfl)
  have Z280 : n0 ≤ h279.size := Nat.le_trans Z274 (Keep.of_wr W279).1
  have K0_280 : Keep h0 h279 [] := K0_274.wr W279 (Or.inr l0_c_269)
  have O280 : Old Z n0 h279 := O274.wr W279 g_c_269
  have R280 : CHr Z own_EL s.vm h0 T260.vm h279 := R274.trans (CHr.wr W279 sfc269 R274.1)
  have hk280 : T260.heap.size ≤ h279.size := Nat.le_trans hk274 (Keep.of_wr W279).1
  have sf280_b255 : Safe Z own_EL T260.vm h279 b255 := Safe.wr W279 sfc269 R274.1 sf274_b255
  have sf280_c_269 : Safe Z own_EL T260.vm h279 c_269 := Safe.wr W279 sfc269 R274.1 sfc269
  have N279 := Fr.snoc X279 N275 g_c_269
  have f282 := ((f270.keep K269 nin0).other W279 (Or.inl (Nat.ne_of_lt (Nat.lt_of_lt_of_le f273.lt lo_c_269))))
  have f283 := ((f271.keep K269).wr W279)
  have f284 := ((f272.keep K269 nin0).other W279 (Nat.ne_of_lt (Nat.lt_of_lt_of_le f271.lt lo_c_269)))
  have f285 := ((f273.keep K269).wr W279)
  obtain ⟨cq281, kq281, q281a, q281b, q281c⟩ := isOf hZ260 e279 f285
  -- pc 193: com/example/larkbridge/larkbridge/mcp/McpResourceContents.bytes
  obtain ⟨_, _, ⟨T281, L281, k281, n281⟩, -, X281, ⟨Lc281, hQ281, l281, y281, z281⟩, st281⟩ := X279.virtualBack hx (y := y6) (z := y6) hw260 (mvT hZ260 (W 69 rfl)) (mvT hZ260 (W 70 rfl)) (notFace_of_selects (args := #[]) (mvT hZ260 (W 72 rfl))) (mvT hZ260 (W 72 rfl)) (mvT hZ260 (W 71 rfl)) (by decide) (backOf (W := 0) (rmbyt l Z a0 G1 hG [] b_260 c_260 k255 (1 : Int32) ([(.int ((p2.toInt8.toInt32).toInt8.toInt32))] : List Value) h279 n0 Z280 O280 f282 f283 f284 (by decide)) hZ260 (W 73 rfl) (W 36 rfl) (by decide) (by decide)) q281a q281c (g := (mkF m 193 #[.val (.int p0), .val (.int p1), .val (.int p2), .val (.int p3), .val (.ref b_253), .val (.int vm_), .val .null, .val (.int (1 : Int32)), .val (.ref b255), .val (.ref b_260), .val (.ref c_269), .val (.int (1 : Int32)), .unset, .unset, .unset, .unset, .unset, .unset, .unset, .unset] [(.ref b_260)])) rfl (by rw [hml]; rfl) (Steps.refl _) (argsL := []) (rest := []) (lenOf pd____B rfl) rfl (by show 2 * 0 + _ ≤ _; exact Nat.le_of_eq rfl) (hb hby at_193) (fun _ _ => ⟨rfl, e279, (by decide : 12 + 1 ≤ _), (by decide : 41 + 4 ≤ _)⟩)
  dsimp only [Pt.U, Pt.locs, Pt.cells, Pt.slots] at X281 l281 y281 z281 st281 hQ281
  subst l281 y281 z281
  obtain ⟨c_281, rfl, N281q, K281, f281_0, f281_1, f281_2⟩ := hQ281
  have N281 := Fr.app N279 N281q
  have Z286 : n0 ≤ T281.heap.size := Nat.le_trans Z280 K281.1
  have K0_286 : Keep h0 T281.heap [] := K0_280.trans K281 all0
  have O286 : Old Z n0 T281.heap := O280.keep K281 all0
  have R286 : CHr Z own_EL s.vm h0 T260.vm T281.heap := R280.trans (CHr.keep K281 sf0 R280.1)
  have hk286 : T260.heap.size ≤ T281.heap.size := Nat.le_trans hk280 K281.1
  have sf286_b255 : Safe Z own_EL T260.vm T281.heap b255 := Safe.keep K281 sf0 R280.1 sf280_b255
  have sf286_c_269 : Safe Z own_EL T260.vm T281.heap c_269 := Safe.keep K281 sf0 R280.1 sf280_c_269
  have lo_c_281 : h279.size ≤ c_281 := f281_0
  have g_c_281 : n0 ≤ c_281 := Nat.le_trans Z280 lo_c_281
  have l0_c_281 : h0.size ≤ c_281 := Nat.le_trans K0_280.1 lo_c_281
  have sfc281 : Safe Z own_EL T260.vm T281.heap c_281 := Safe.keep K281 sf0 R280.1 (Safe.new lo_c_281)
  -- pc 203: com/example/larkbridge/larkbridge/mcp/McpResourceContentsBinaryPinLaw.same
  obtain ⟨_, _, ⟨T287, L287, k287, n287⟩, -, X287, ⟨Lc287, hQ287, l287, y287, z287⟩, st287⟩ := Jvm.LawKit.callS X281 hx (y := y12) hw260 (mvT hZ260 (W 74 rfl)) (mvT hZ260 (W 75 rfl)) (mvT hZ260 (W 2 rfl)) (mvT hZ260 (W 76 rfl)) (by decide) (backOf (W := 0) (rmsame1 l Z a0 G1 hG [] c_281 p2 k255 T281.heap n0 Z286 O286 f281_2) hZ260 (W 76 rfl) (W 2 rfl) (by decide) (by decide)) (g := (mkF m 203 #[.val (.int p0), .val (.int p1), .val (.int p2), .val (.int p3), .val (.ref b_253), .val (.int vm_), .val .null, .val (.int (1 : Int32)), .val (.ref b255), .val (.ref b_260), .val (.ref c_269), .val (.int (1 : Int32)), .val (.ref c_281), .unset, .unset, .unset, .unset, .unset, .unset, .unset] [(.int p2), (.int (1 : Int32)), (.ref c_281)])) rfl (by rw [hml]; rfl) (argsL := [(.ref c_281), (.int (1 : Int32)), (.int p2)]) (rest := []) (lenOf pd___BII_Z rfl) rfl (by show 2 * 0 + _ ≤ _; exact Nat.le_of_eq rfl) (hb hby at_203) (fun _ _ => ⟨rfl, rfl, (by decide : 13 + 0 ≤ _), (by decide : 45 + 0 ≤ _)⟩)
  dsimp only [Pt.U, Pt.locs, Pt.cells, Pt.slots] at X287 l287 y287 z287 st287 hQ287
  subst l287 y287 z287
  obtain ⟨rfl, N287q, eq287⟩ := hQ287
  have N287 := Fr.app N281 N287q
  have f289 := ((((f260_5.other W267 (Or.inl (Ne.symm (Nat.ne_of_lt (Nat.lt_of_lt_of_le f262.lt lo_b_260))))).keep K269 nin0).other W279 (Or.inl (Nat.ne_of_lt (Nat.lt_of_lt_of_le f273.lt lo_c_269)))).keep K281 nin0)
  have f290 := (f285.keep K281)
  obtain ⟨cq288, kq288, q288a, q288b, q288c⟩ := isOf hZ260 eq287 f290
  -- pc 210: com/example/larkbridge/larkbridge/mcp/McpResourceContents.uri
  obtain ⟨_, _, ⟨T288, L288, k288, n288⟩, -, X288, ⟨Lc288, hQ288, l288, y288, z288⟩, st288⟩ := X287.virtualBack hx (y := y7) (z := y7) hw260 (mvT hZ260 (W 77 rfl)) (mvT hZ260 (W 78 rfl)) (notFace_of_selects (args := #[]) (mvT hZ260 (W 80 rfl))) (mvT hZ260 (W 80 rfl)) (mvT hZ260 (W 79 rfl)) (by decide) (backOf (W := 0) (rmG_McpResourceContents_uri l Z a0 G1 hG [] b_260 (.ref b_253) T281.heap n0 Z286 O286 f289 rfl) hZ260 (W 81 rfl) (W 36 rfl) (by decide) (by decide)) q288a q288c (g := (mkF m 210 #[.val (.int p0), .val (.int p1), .val (.int p2), .val (.int p3), .val (.ref b_253), .val (.int vm_), .val .null, .val (.int (1 : Int32)), .val (.ref b255), .val (.ref b_260), .val (.ref c_269), .val (.int (1 : Int32)), .val (.ref c_281), .val (.int (1 : Int32)), .unset, .unset, .unset, .unset, .unset, .unset] [(.ref b_260)])) rfl (by rw [hml]; rfl) (Steps.refl _) (argsL := []) (rest := []) (lenOf pd___Ljava_lang_String_ rfl) rfl (by show 2 * 0 + _ ≤ _; exact Nat.le_of_eq rfl) (hb hby at_210) (fun _ _ => ⟨rfl, eq287, (by decide : 13 + 0 ≤ _), (by decide : 45 + 0 ≤ _)⟩)
  dsimp only [Pt.U, Pt.locs, Pt.cells, Pt.slots] at X288 l288 y288 z288 st288 hQ288
  subst l288 y288 z288
  obtain ⟨rfl, N288q, eq288⟩ := hQ288
  have N288 := Fr.app N287 N288q
  have f292 := (((((f261.keep K260).wr W267).keep K269).wr W279).keep K281)
  obtain ⟨cq291, kq291, q291a, q291b, q291c⟩ := isOf hZ260 eq288 f292
  -- pc 219: java/lang/String.equals
  obtain ⟨_, _, ⟨T291, L291, k291, n291⟩, -, X291, ⟨Lc291, hQ291, l291, y291, z291⟩, st291⟩ := X288.virtualBack hx (y := y11) (z := y11) hw260 (mvT hZ260 (W 82 rfl)) (mvT hZ260 (W 83 rfl)) (notFace_of_selects (args := #[]) (mvT hZ260 (W 85 rfl))) (mvT hZ260 (W 85 rfl)) (mvT hZ260 (W 84 rfl)) (by decide) (backOf (W := 0) (rmeqs l Z a0 G1 hG [] b_253 T281.heap n0 Z286 O286) hZ260 (W 86 rfl) (W 6 rfl) (by decide) (by decide)) q291a q291c (g := (mkF m 219 #[.val (.int p0), .val (.int p1), .val (.int p2), .val (.int p3), .val (.ref b_253), .val (.int vm_), .val .null, .val (.int (1 : Int32)), .val (.ref b255), .val (.ref b_260), .val (.ref c_269), .val (.int (1 : Int32)), .val (.ref c_281), .val (.int (1 : Int32)), .val (.ref b_253), .unset, .unset, .unset, .unset, .unset] [(.ref b_253), (.ref b_253)])) rfl (by rw [hml]; rfl) (Steps.refl _) (argsL := [(.ref b_253)]) (rest := []) (lenOf pd__Ljava_lang_Object__Z rfl) rfl (by show 2 * 0 + _ ≤ _; exact Nat.le_of_eq rfl) (hb hby at_219) (fun _ _ => ⟨rfl, eq288, (by decide : 13 + 0 ≤ _), (by decide : 45 + 0 ≤ _)⟩)
  dsimp only [Pt.U, Pt.locs, Pt.cells, Pt.slots] at X291 l291 y291 z291 st291 hQ291
  subst l291 y291 z291
  obtain ⟨rfl, N291q, eq291⟩ := hQ291
  have N291 := Fr.app N288 N291q
  have f294 := ((((f260_6.other W267 (Or.inl (Ne.symm (Nat.ne_of_lt (Nat.lt_of_lt_of_le f262.lt lo_b_260))))).keep K269 nin0).other W279 (Or.inl (Nat.ne_of_lt (Nat.lt_of_lt_of_le f273.lt lo_c_269)))).keep K281 nin0)
  obtain ⟨cq293, kq293, q293a, q293b, q293c⟩ := isOf hZ260 eq291 f290
  -- pc 226: com/example/larkbridge/larkbridge/mcp/McpResourceContents.mimeType
  obtain ⟨_, _, ⟨T293, L293, k293, n293⟩, -, X293, ⟨Lc293, hQ293, l293, y293, z293⟩, st293⟩ := X291.virtualBack hx (y := y8) (z := y8) hw260 (mvT hZ260 (W 87 rfl)) (mvT hZ260 (W 88 rfl)) (notFace_of_selects (args := #[]) (mvT hZ260 (W 90 rfl))) (mvT hZ260 (W 90 rfl)) (mvT hZ260 (W 89 rfl)) (by decide) (backOf (W := 0) (rmG_McpResourceContents_mimeType l Z a0 G1 hG [] b_260 .null T281.heap n0 Z286 O286 f294 rfl) hZ260 (W 91 rfl) (W 36 rfl) (by decide) (by decide)) q293a q293c (g := (mkF m 226 #[.val (.int p0), .val (.int p1), .val (.int p2), .val (.int p3), .val (.ref b_253), .val (.int vm_), .val .null, .val (.int (1 : Int32)), .val (.ref b255), .val (.ref b_260), .val (.ref c_269), .val (.int (1 : Int32)), .val (.ref c_281), .val (.int (1 : Int32)), .val (.ref b_253), .val (.int (1 : Int32)), .unset, .unset, .unset, .unset] [(.ref b_260)])) rfl (by rw [hml]; rfl) (Steps.refl _) (argsL := []) (rest := []) (lenOf pd___Ljava_lang_String_ rfl) rfl (by show 2 * 0 + _ ≤ _; exact Nat.le_of_eq rfl) (hb hby at_226) (fun _ _ => ⟨rfl, eq291, (by decide : 13 + 0 ≤ _), (by decide : 45 + 0 ≤ _)⟩)
  dsimp only [Pt.U, Pt.locs, Pt.cells, Pt.slots] at X293 l293 y293 z293 st293 hQ293
  subst l293 y293 z293
  obtain ⟨rfl, N293q, eq293⟩ := hQ293
  have N293 := Fr.app N291 N293q
  have f296 := ((((f260_7.other W267 (Or.inl (Ne.symm (Nat.ne_of_lt (Nat.lt_of_lt_of_le f262.lt lo_b_260))))).keep K269 nin0).other W279 (Or.inl (Nat.ne_of_lt (Nat.lt_of_lt_of_le f273.lt lo_c_269)))).keep K281 nin0)
  obtain ⟨cq295, kq295, q295a, q295b, q295c⟩ := isOf hZ260 eq293 f290
  -- pc 260: com/example/larkbridge/larkbridge/mcp/McpResourceContents.isText
  obtain ⟨_, _, ⟨T295, L295, k295, n295⟩, -, X295, ⟨Lc295, hQ295, l295, y295, z295⟩, st295⟩ := X293.virtualBack hx (y := y9) (z := y9) hw260 (mvT hZ260 (W 92 rfl)) (mvT hZ260 (W 93 rfl)) (notFace_of_selects (args := #[]) (mvT hZ260 (W 95 rfl))) (mvT hZ260 (W 95 rfl)) (mvT hZ260 (W 94 rfl)) (by decide) (backOf (W := 0) (rmist l Z a0 G1 hG [] b_260 T281.heap n0 Z286 O286 f296) hZ260 (W 96 rfl) (W 36 rfl) (by decide) (by decide)) q295a q295c (g := (mkF m 260 #[.val (.int p0), .val (.int p1), .val (.int p2), .val (.int p3), .val (.ref b_253), .val (.int vm_), .val .null, .val (.int (1 : Int32)), .val (.ref b255), .val (.ref b_260), .val (.ref c_269), .val (.int (1 : Int32)), .val (.ref c_281), .val (.int (1 : Int32)), .val (.ref b_253), .val (.int (1 : Int32)), .val .null, .val (.int (1 : Int32)), .unset, .unset] [(.ref b_260)])) rfl (by rw [hml]; rfl) (Steps.refl _) (argsL := []) (rest := []) (lenOf pd___Z rfl) rfl (by show 2 * 0 + _ ≤ _; exact Nat.le_of_eq rfl) (hb hby at_260) (fun _ _ => ⟨rfl, eq293, (by decide : 13 + 0 ≤ _), (by decide : 45 + 0 ≤ _)⟩)
  dsimp only [Pt.U, Pt.locs, Pt.cells, Pt.slots] at X295 l295 y295 z295 st295 hQ295
  subst l295 y295 z295
  obtain ⟨rfl, N295q, eq295⟩ := hQ295
  have N295 := Fr.app N293 N295q
  obtain ⟨cq297, kq297, q297a, q297b, q297c⟩ := isOf hZ260 eq295 f290
  -- pc 275: com/example/larkbridge/larkbridge/mcp/McpResourceContents.text
  obtain ⟨_, _, ⟨T297, L297, k297, n297⟩, -, X297, ⟨Lc297, hQ297, l297, y297, z297⟩, st297⟩ := X295.virtualBack hx (y := y10) (z := y10) hw260 (mvT hZ260 (W 97 rfl)) (mvT hZ260 (W 98 rfl)) (notFace_of_selects (args := #[]) (mvT hZ260 (W 100 rfl))) (mvT hZ260 (W 100 rfl)) (mvT hZ260 (W 99 rfl)) (by decide) (backOf (W := 0) (rmtxt l Z a0 G1 hG [] b_260 T281.heap n0 Z286 O286 f296) hZ260 (W 101 rfl) (W 36 rfl) (by decide) (by decide)) q297a q297c (g := (mkF m 275 #[.val (.int p0), .val (.int p1), .val (.int p2), .val (.int p3), .val (.ref b_253), .val (.int vm_), .val .null, .val (.int (1 : Int32)), .val (.ref b255), .val (.ref b_260), .val (.ref c_269), .val (.int (1 : Int32)), .val (.ref c_281), .val (.int (1 : Int32)), .val (.ref b_253), .val (.int (1 : Int32)), .val .null, .val (.int (1 : Int32)), .val (.int (1 : Int32)), .unset] [(.ref b_260)])) rfl (by rw [hml]; rfl) (Steps.refl _) (argsL := []) (rest := []) (lenOf pd___Ljava_lang_String_ rfl) rfl (by show 2 * 0 + _ ≤ _; exact Nat.le_of_eq rfl) (hb hby at_275) (fun _ _ => ⟨rfl, eq295, (by decide : 13 + 0 ≤ _), (by decide : 45 + 0 ≤ _)⟩)
  dsimp only [Pt.U, Pt.locs, Pt.cells, Pt.slots] at X297 l297 y297 z297 st297 hQ297
  subst l297 y297 z297
  obtain ⟨rfl, N297q, eq297⟩ := hQ297
  have N297 := Fr.app N295 N297q
  obtain ⟨fs, hr, hrun, hended, hend⟩ := Jvm.Stand.leaveW (v := some (.int (1 : Int32))) X297 hSn260 (by rw [eq297]; exact hk286) (fun h => by rw [Bd.returns] at h; cases h)
  have hFin := R286.trans (CHv.at X297 hZ260 hEL R286.1)
  refine ⟨_, _, pre0 _ ?_, hrun, hended, _, _, rfl, ?_, ?_, own_mono hend (Nat.le_of_ble_eq_true rfl) (Nat.le_of_ble_eq_true rfl)⟩
  · show Steps p.tables e below (s₁.setTop (mkF m 0 #[.val (.int p0), .val (.int p1), .val (.int p2), .val (.int p3), .unset, .unset, .unset, .unset, .unset, .unset, .unset, .unset, .unset, .unset, .unset, .unset, .unset, .unset, .unset, .unset] [])) _
    refine XS.iloadN X0.here hx rfl (hb hby at_0) rfl ?_
    refine XS.iloadN X0.here hx rfl (hb hby at_1) rfl ?_
    refine XS.iconst X0.here hx rfl (hb hby at_2) ?_
    refine XS.iand X0.here hx rfl (hb hby at_3) rfl ?_
    refine st253.trans ?_
    show Steps p.tables e below (T253.setTop (mkF m 7 #[.val (.int p0), .val (.int p1), .val (.int p2), .val (.int p3), .unset, .unset, .unset, .unset, .unset, .unset, .unset, .unset, .unset, .unset, .unset, .unset, .unset, .unset, .unset, .unset] [(.ref b_253)])) _
    refine XS.astore X253.here hx rfl (hb hby at_7) rfl rfl (l' := #[.val (.int p0), .val (.int p1), .val (.int p2), .val (.int p3), .val (.ref b_253), .unset, .unset, .unset, .unset, .unset, .unset, .unset, .unset, .unset, .unset, .unset, .unset, .unset, .unset, .unset]) rfl ?_
    refine XS.iloadN X253.here hx rfl (hb hby at_9) rfl ?_
    refine XS.iconst X253.here hx rfl (hb hby at_10) ?_
    refine XS.iushr X253.here hx rfl (hb hby at_11) rfl ?_
    refine XS.bipush X253.here hx rfl (hb hby at_12) ?_
    refine XS.iand X253.here hx rfl (hb hby at_14) rfl ?_
    show Steps p.tables e below (T253.setTop (mkF m 15 #[.val (.int p0), .val (.int p1), .val (.int p2), .val (.int p3), .val (.ref b_253), .unset, .unset, .unset, .unset, .unset, .unset, .unset, .unset, .unset, .unset, .unset, .unset, .unset, .unset, .unset] [(.int (((p3.toUInt32 >>> ((2 : Int32) &&& 31).toUInt32).toInt32) &&& (7 : Int32)))])) _
    rw [← hvm]
    show Steps p.tables e below (T253.setTop (mkF m 15 #[.val (.int p0), .val (.int p1), .val (.int p2), .val (.int p3), .val (.ref b_253), .unset, .unset, .unset, .unset, .unset, .unset, .unset, .unset, .unset, .unset, .unset, .unset, .unset, .unset, .unset] [(.int vm_)])) _
    refine XS.istore X253.here hx rfl (hb hby at_15) rfl (l' := #[.val (.int p0), .val (.int p1), .val (.int p2), .val (.int p3), .val (.ref b_253), .val (.int vm_), .unset, .unset, .unset, .unset, .unset, .unset, .unset, .unset, .unset, .unset, .unset, .unset, .unset, .unset]) rfl ?_
    refine XS.iload X253.here hx rfl (hb hby at_17) rfl ?_
    refine XS.ifNo X253.here hx rfl (hb hby at_19) rfl ((if0 _ _).trans (teq ((by rw [hvm]; exact hm) : vm_ = (0 : Int32))).2) ?_
    refine XS.aconstNull X253.here hx rfl (hb hby at_22) ?_
    refine XS.goto X253.here hx rfl (pc0 := 23) (pc' := 34) rfl (hb hby at_23) (by decide) (by decide) ?_
    refine XS.astore X253.here hx rfl (hb hby at_34) rfl rfl (l' := #[.val (.int p0), .val (.int p1), .val (.int p2), .val (.int p3), .val (.ref b_253), .val (.int vm_), .val .null, .unset, .unset, .unset, .unset, .unset, .unset, .unset, .unset, .unset, .unset, .unset, .unset, .unset]) rfl ?_
    refine XS.iloadN X253.here hx rfl (hb hby at_36) rfl ?_
    refine XS.iconst X253.here hx rfl (hb hby at_37) ?_
    show Steps p.tables e below (T253.setTop (mkF m 38 #[.val (.int p0), .val (.int p1), .val (.int p2), .val (.int p3), .val (.ref b_253), .val (.int vm_), .val .null, .unset, .unset, .unset, .unset, .unset, .unset, .unset, .unset, .unset, .unset, .unset, .unset, .unset] [(.int (5 : Int32)), (.int p3)])) _
    refine XS.iushr X253.here hx rfl (hb hby at_38) rfl ?_
    refine XS.bipush X253.here hx rfl (hb hby at_39) ?_
    refine XS.iand X253.here hx rfl (hb hby at_41) rfl ?_
    refine XS.iconst X253.here hx rfl (hb hby at_42) ?_
    refine iremM (g := (mkF m 43 #[.val (.int p0), .val (.int p1), .val (.int p2), .val (.int p3), .val (.ref b_253), .val (.int vm_), .val .null, .unset, .unset, .unset, .unset, .unset, .unset, .unset, .unset, .unset, .unset, .unset, .unset, .unset] [(.int (5 : Int32)), (.int (((p3.toUInt32 >>> ((5 : Int32) &&& 31).toUInt32).toInt32) &&& (7 : Int32)))])) X253 hx rfl (hb hby at_43) rfl (by decide) ?_
    show Steps p.tables e below (T253.setTop (mkF m 44 #[.val (.int p0), .val (.int p1), .val (.int p2), .val (.int p3), .val (.ref b_253), .val (.int vm_), .val .null, .unset, .unset, .unset, .unset, .unset, .unset, .unset, .unset, .unset, .unset, .unset, .unset, .unset] [(.int ((((p3.toUInt32 >>> ((5 : Int32) &&& 31).toUInt32).toInt32) &&& (7 : Int32)) % (5 : Int32)))])) _
    rw [hn]
    show Steps p.tables e below (T253.setTop (mkF m 44 #[.val (.int p0), .val (.int p1), .val (.int p2), .val (.int p3), .val (.ref b_253), .val (.int vm_), .val .null, .unset, .unset, .unset, .unset, .unset, .unset, .unset, .unset, .unset, .unset, .unset, .unset, .unset] [(.int (1 : Int32))])) _
    refine XS.istore X253.here hx rfl (hb hby at_44) rfl (l' := #[.val (.int p0), .val (.int p1), .val (.int p2), .val (.int p3), .val (.ref b_253), .val (.int vm_), .val .null, .val (.int (1 : Int32)), .unset, .unset, .unset, .unset, .unset, .unset, .unset, .unset, .unset, .unset, .unset, .unset]) rfl ?_
    refine XS.iload X253.here hx rfl (hb hby at_46) rfl ?_
    refine st255 _ ?_
    show Steps p.tables e below (T255.setTop (mkF m 50 #[.val (.int p0), .val (.int p1), .val (.int p2), .val (.int p3), .val (.ref b_253), .val (.int vm_), .val .null, .val (.int (1 : Int32)), .unset, .unset, .unset, .unset, .unset, .unset, .unset, .unset, .unset, .unset, .unset, .unset] [(.ref b255)])) _
    refine XS.astore X255.here hx rfl (hb hby at_50) rfl rfl (l' := #[.val (.int p0), .val (.int p1), .val (.int p2), .val (.int p3), .val (.ref b_253), .val (.int vm_), .val .null, .val (.int (1 : Int32)), .val (.ref b255), .unset, .unset, .unset, .unset, .unset, .unset, .unset, .unset, .unset, .unset, .unset]) rfl ?_
    refine XS.iload X255.here hx rfl (hb hby at_52) rfl ?_
    refine XS.ifNo X255.here hx rfl (hb hby at_54) rfl ((if0 _ _).trans (tlt (by decide : (0 : Int32) < (1 : Int32))).2.2.2) ?_
    refine XS.aload X255.here hx rfl (hb hby at_57) rfl rfl ?_
    refine XS.iconst X255.here hx rfl (hb hby at_59) ?_
    refine XS.iloadN X255.here hx rfl (hb hby at_60) rfl ?_
    refine XS.i2b X255.here hx rfl (hb hby at_61) rfl ?_
    refine st258 _ ?_
    show Steps p.tables e below (T258.setTop (mkF m 63 #[.val (.int p0), .val (.int p1), .val (.int p2), .val (.int p3), .val (.ref b_253), .val (.int vm_), .val .null, .val (.int (1 : Int32)), .val (.ref b255), .unset, .unset, .unset, .unset, .unset, .unset, .unset, .unset, .unset, .unset, .unset] [])) _
    refine XS.iload X258.here hx rfl (hb hby at_63) rfl ?_
    refine XS.iconst X258.here hx rfl (hb hby at_65) ?_
    refine XS.icmpYes X258.here hx rfl (pc0 := 66) (pc' := 78) rfl (hb hby at_66) rfl (flt (by decide : ¬ ((1 : Int32) < (1 : Int32)))).2.2.2 (by decide) (by decide) ?_
    refine XS.iload X258.here hx rfl (hb hby at_78) rfl ?_
    refine XS.iconst X258.here hx rfl (hb hby at_80) ?_
    refine XS.icmpYes X258.here hx rfl (pc0 := 81) (pc' := 93) rfl (hb hby at_81) rfl (flt (by decide : ¬ ((2 : Int32) < (1 : Int32)))).2.2.2 (by decide) (by decide) ?_
    refine XS.iload X258.here hx rfl (hb hby at_93) rfl ?_
    refine XS.iconst X258.here hx rfl (hb hby at_95) ?_
    show Steps p.tables e below (T258.setTop (mkF m 96 #[.val (.int p0), .val (.int p1), .val (.int p2), .val (.int p3), .val (.ref b_253), .val (.int vm_), .val .null, .val (.int (1 : Int32)), .val (.ref b255), .unset, .unset, .unset, .unset, .unset, .unset, .unset, .unset, .unset, .unset, .unset] [(.int (3 : Int32)), (.int (1 : Int32))])) _
    refine XS.icmpYes X258.here hx rfl (pc0 := 96) (pc' := 108) rfl (hb hby at_96) rfl (flt (by decide : ¬ ((3 : Int32) < (1 : Int32)))).2.2.2 (by decide) (by decide) ?_
    refine XS.aload X258.here hx rfl (hb hby at_108) rfl rfl ?_
    refine XS.aload X258.here hx rfl (hb hby at_110) rfl rfl ?_
    refine XS.aload X258.here hx rfl (hb hby at_112) rfl rfl ?_
    refine st260.trans ?_
    show Steps p.tables e below (T260.setTop (mkF m 117 #[.val (.int p0), .val (.int p1), .val (.int p2), .val (.int p3), .val (.ref b_253), .val (.int vm_), .val .null, .val (.int (1 : Int32)), .val (.ref b255), .unset, .unset, .unset, .unset, .unset, .unset, .unset, .unset, .unset, .unset, .unset] [(.ref b_260)])) _
    refine XS.astore X260.here hx rfl (hb hby at_117) rfl rfl (l' := #[.val (.int p0), .val (.int p1), .val (.int p2), .val (.int p3), .val (.ref b_253), .val (.int vm_), .val .null, .val (.int (1 : Int32)), .val (.ref b255), .val (.ref b_260), .unset, .unset, .unset, .unset, .unset, .unset, .unset, .unset, .unset, .unset]) rfl ?_
    refine XS.iload X260.here hx rfl (hb hby at_119) rfl ?_
    refine XS.ifNo X260.here hx rfl (hb hby at_121) rfl ((if0 _ _).trans (tlt (by decide : (0 : Int32) < (1 : Int32))).2.2.2) ?_
    refine XS.aload X260.here hx rfl (hb hby at_124) rfl rfl ?_
    refine XS.iconst X260.here hx rfl (hb hby at_126) ?_
    refine XS.aload X260.here hx rfl (hb hby at_127) rfl rfl ?_
    refine XS.iconst X260.here hx rfl (hb hby at_129) ?_
    refine X260.baloadBytes hx (j := (0 : Int32)) (v := (.int ((p2.toInt8.toInt32).toInt8.toInt32))) (own_cell rfl Arq265.1) (State.isArrayOf_alike hZ260.alike Arq265.2.1) Arq265.2.2 hinq265 hatq265 (g := (mkF m 130 #[.val (.int p0), .val (.int p1), .val (.int p2), .val (.int p3), .val (.ref b_253), .val (.int vm_), .val .null, .val (.int (1 : Int32)), .val (.ref b255), .val (.ref b_260), .unset, .unset, .unset, .unset, .unset, .unset, .unset, .unset, .unset, .unset] [(.int (0 : Int32)), (.ref b255), (.int (0 : Int32)), (.ref b255)])) rfl rfl (hb hby at_130) _ ?_
    show Steps p.tables e below (T260.setTop (mkF m 131 #[.val (.int p0), .val (.int p1), .val (.int p2), .val (.int p3), .val (.ref b_253), .val (.int vm_), .val .null, .val (.int (1 : Int32)), .val (.ref b255), .val (.ref b_260), .unset, .unset, .unset, .unset, .unset, .unset, .unset, .unset, .unset, .unset] [(.int ((p2.toInt8.toInt32).toInt8.toInt32)), (.int (0 : Int32)), (.ref b255)])) _
    refine XS.iconst X260.here hx rfl (hb hby at_131) ?_
    refine XS.ixor X260.here hx rfl (hb hby at_132) rfl ?_
    refine XS.i2b X260.here hx rfl (hb hby at_133) rfl ?_
    refine st267 _ ?_
    show Steps p.tables e below (T267.setTop (mkF m 135 #[.val (.int p0), .val (.int p1), .val (.int p2), .val (.int p3), .val (.ref b_253), .val (.int vm_), .val .null, .val (.int (1 : Int32)), .val (.ref b255), .val (.ref b_260), .unset, .unset, .unset, .unset, .unset, .unset, .unset, .unset, .unset, .unset] [])) _
    refine XS.iload X267.here hx rfl (hb hby at_135) rfl ?_
    refine XS.iconst X267.here hx rfl (hb hby at_137) ?_
    refine XS.icmpYes X267.here hx rfl (pc0 := 138) (pc' := 152) rfl (hb hby at_138) rfl (flt (by decide : ¬ ((3 : Int32) < (1 : Int32)))).2.2.2 (by decide) (by decide) ?_
    refine XS.aload X267.here hx rfl (hb hby at_152) rfl rfl ?_
    refine st269.trans ?_
    show Steps p.tables e below (T269.setTop (mkF m 157 #[.val (.int p0), .val (.int p1), .val (.int p2), .val (.int p3), .val (.ref b_253), .val (.int vm_), .val .null, .val (.int (1 : Int32)), .val (.ref b255), .val (.ref b_260), .unset, .unset, .unset, .unset, .unset, .unset, .unset, .unset, .unset, .unset] [(.ref c_269)])) _
    refine XS.astore X269.here hx rfl (hb hby at_157) rfl rfl (l' := #[.val (.int p0), .val (.int p1), .val (.int p2), .val (.int p3), .val (.ref b_253), .val (.int vm_), .val .null, .val (.int (1 : Int32)), .val (.ref b255), .val (.ref b_260), .val (.ref c_269), .unset, .unset, .unset, .unset, .unset, .unset, .unset, .unset, .unset]) rfl ?_
    refine XS.aload X269.here hx rfl (hb hby at_159) rfl rfl ?_
    refine XS.iload X269.here hx rfl (hb hby at_161) rfl ?_
    refine XS.iloadN X269.here hx rfl (hb hby at_163) rfl ?_
    refine st275 _ ?_
    show Steps p.tables e below (T275.setTop (mkF m 167 #[.val (.int p0), .val (.int p1), .val (.int p2), .val (.int p3), .val (.ref b_253), .val (.int vm_), .val .null, .val (.int (1 : Int32)), .val (.ref b255), .val (.ref b_260), .val (.ref c_269), .unset, .unset, .unset, .unset, .unset, .unset, .unset, .unset, .unset] [(.int (1 : Int32))])) _
    refine XS.istore X275.here hx rfl (hb hby at_167) rfl (l' := #[.val (.int p0), .val (.int p1), .val (.int p2), .val (.int p3), .val (.ref b_253), .val (.int vm_), .val .null, .val (.int (1 : Int32)), .val (.ref b255), .val (.ref b_260), .val (.ref c_269), .val (.int (1 : Int32)), .unset, .unset, .unset, .unset, .unset, .unset, .unset, .unset]) rfl ?_
    refine XS.aload X275.here hx rfl (hb hby at_169) rfl rfl ?_
    refine XS.ifnullNo X275.here hx rfl (hb hby at_171) rfl ?_
    refine XS.aload X275.here hx rfl (hb hby at_174) rfl rfl ?_
    refine X275.arraylength hx (own_cell eq275 Arq276.1) (State.isArrayOf_alike hZ260.alike Arq276.2.1) (g := (mkF m 176 #[.val (.int p0), .val (.int p1), .val (.int p2), .val (.int p3), .val (.ref b_253), .val (.int vm_), .val .null, .val (.int (1 : Int32)), .val (.ref b255), .val (.ref b_260), .val (.ref c_269), .val (.int (1 : Int32)), .unset, .unset, .unset, .unset, .unset, .unset, .unset, .unset] [(.ref c_269)])) rfl rfl (hb hby at_176) _ ?_
    rw [len_of Sq276 Nq276]
    refine XS.ifNo X275.here hx rfl (hb hby at_177) rfl ((if0 _ _).trans (tlt (by decide : (0 : Int32) < (1 : Int32))).2.2.2) ?_
    refine XS.aload X275.here hx rfl (hb hby at_180) rfl rfl ?_
    refine XS.iconst X275.here hx rfl (hb hby at_182) ?_
    show Steps p.tables e below (T275.setTop (mkF m 183 #[.val (.int p0), .val (.int p1), .val (.int p2), .val (.int p3), .val (.ref b_253), .val (.int vm_), .val .null, .val (.int (1 : Int32)), .val (.ref b255), .val (.ref b_260), .val (.ref c_269), .val (.int (1 : Int32)), .unset, .unset, .unset, .unset, .unset, .unset, .unset, .unset] [(.int (0 : Int32)), (.ref c_269)])) _
    refine XS.aload X275.here hx rfl (hb hby at_183) rfl rfl ?_
    refine XS.iconst X275.here hx rfl (hb hby at_185) ?_
    refine X275.baloadBytes hx (j := (0 : Int32)) (v := (.int ((p2.toInt8.toInt32).toInt8.toInt32))) (own_cell eq275 Arq277.1) (State.isArrayOf_alike hZ260.alike Arq277.2.1) Arq277.2.2 hinq277 hatq277 (g := (mkF m 186 #[.val (.int p0), .val (.int p1), .val (.int p2), .val (.int p3), .val (.ref b_253), .val (.int vm_), .val .null, .val (.int (1 : Int32)), .val (.ref b255), .val (.ref b_260), .val (.ref c_269), .val (.int (1 : Int32)), .unset, .unset, .unset, .unset, .unset, .unset, .unset, .unset] [(.int (0 : Int32)), (.ref c_269), (.int (0 : Int32)), (.ref c_269)])) rfl rfl (hb hby at_186) _ ?_
    refine XS.iconst X275.here hx rfl (hb hby at_187) ?_
    refine XS.ixor X275.here hx rfl (hb hby at_188) rfl ?_
    refine XS.i2b X275.here hx rfl (hb hby at_189) rfl ?_
    refine st279 _ ?_
    show Steps p.tables e below (T279.setTop (mkF m 191 #[.val (.int p0), .val (.int p1), .val (.int p2), .val (.int p3), .val (.ref b_253), .val (.int vm_), .val .null, .val (.int (1 : Int32)), .val (.ref b255), .val (.ref b_260), .val (.ref c_269), .val (.int (1 : Int32)), .unset, .unset, .unset, .unset, .unset, .unset, .unset, .unset] [])) _
    refine XS.aload X279.here hx rfl (hb hby at_191) rfl rfl ?_
    refine st281.trans ?_
    show Steps p.tables e below (T281.setTop (mkF m 196 #[.val (.int p0), .val (.int p1), .val (.int p2), .val (.int p3), .val (.ref b_253), .val (.int vm_), .val .null, .val (.int (1 : Int32)), .val (.ref b255), .val (.ref b_260), .val (.ref c_269), .val (.int (1 : Int32)), .unset, .unset, .unset, .unset, .unset, .unset, .unset, .unset] [(.ref c_281)])) _
    refine XS.astore X281.here hx rfl (hb hby at_196) rfl rfl (l' := #[.val (.int p0), .val (.int p1), .val (.int p2), .val (.int p3), .val (.ref b_253), .val (.int vm_), .val .null, .val (.int (1 : Int32)), .val (.ref b255), .val (.ref b_260), .val (.ref c_269), .val (.int (1 : Int32)), .val (.ref c_281), .unset, .unset, .unset, .unset, .unset, .unset, .unset]) rfl ?_
    refine XS.aload X281.here hx rfl (hb hby at_198) rfl rfl ?_
    refine XS.iload X281.here hx rfl (hb hby at_200) rfl ?_
    refine XS.iloadN X281.here hx rfl (hb hby at_202) rfl ?_
    refine st287 _ ?_
    show Steps p.tables e below (T287.setTop (mkF m 206 #[.val (.int p0), .val (.int p1), .val (.int p2), .val (.int p3), .val (.ref b_253), .val (.int vm_), .val .null, .val (.int (1 : Int32)), .val (.ref b255), .val (.ref b_260), .val (.ref c_269), .val (.int (1 : Int32)), .val (.ref c_281), .unset, .unset, .unset, .unset, .unset, .unset, .unset] [(.int (1 : Int32))])) _
    refine XS.istore X287.here hx rfl (hb hby at_206) rfl (l' := #[.val (.int p0), .val (.int p1), .val (.int p2), .val (.int p3), .val (.ref b_253), .val (.int vm_), .val .null, .val (.int (1 : Int32)), .val (.ref b255), .val (.ref b_260), .val (.ref c_269), .val (.int (1 : Int32)), .val (.ref c_281), .val (.int (1 : Int32)), .unset, .unset, .unset, .unset, .unset, .unset]) rfl ?_
    refine XS.aload X287.here hx rfl (hb hby at_208) rfl rfl ?_
    refine st288.trans ?_
    show Steps p.tables e below (T288.setTop (mkF m 213 #[.val (.int p0), .val (.int p1), .val (.int p2), .val (.int p3), .val (.ref b_253), .val (.int vm_), .val .null, .val (.int (1 : Int32)), .val (.ref b255), .val (.ref b_260), .val (.ref c_269), .val (.int (1 : Int32)), .val (.ref c_281), .val (.int (1 : Int32)), .unset, .unset, .unset, .unset, .unset, .unset] [(.ref b_253)])) _
    refine XS.astore X288.here hx rfl (hb hby at_213) rfl rfl (l' := #[.val (.int p0), .val (.int p1), .val (.int p2), .val (.int p3), .val (.ref b_253), .val (.int vm_), .val .null, .val (.int (1 : Int32)), .val (.ref b255), .val (.ref b_260), .val (.ref c_269), .val (.int (1 : Int32)), .val (.ref c_281), .val (.int (1 : Int32)), .val (.ref b_253), .unset, .unset, .unset, .unset, .unset]) rfl ?_
    refine XS.aload X288.here hx rfl (hb hby at_215) rfl rfl ?_
    refine XS.aload X288.here hx rfl (hb hby at_217) rfl rfl ?_
    refine st291.trans ?_
    show Steps p.tables e below (T291.setTop (mkF m 222 #[.val (.int p0), .val (.int p1), .val (.int p2), .val (.int p3), .val (.ref b_253), .val (.int vm_), .val .null, .val (.int (1 : Int32)), .val (.ref b255), .val (.ref b_260), .val (.ref c_269), .val (.int (1 : Int32)), .val (.ref c_281), .val (.int (1 : Int32)), .val (.ref b_253), .unset, .unset, .unset, .unset, .unset] [(.int (1 : Int32))])) _
    refine XS.istore X291.here hx rfl (hb hby at_222) rfl (l' := #[.val (.int p0), .val (.int p1), .val (.int p2), .val (.int p3), .val (.ref b_253), .val (.int vm_), .val .null, .val (.int (1 : Int32)), .val (.ref b255), .val (.ref b_260), .val (.ref c_269), .val (.int (1 : Int32)), .val (.ref c_281), .val (.int (1 : Int32)), .val (.ref b_253), .val (.int (1 : Int32)), .unset, .unset, .unset, .unset]) rfl ?_
    refine XS.aload X291.here hx rfl (hb hby at_224) rfl rfl ?_
    refine st293.trans ?_
    show Steps p.tables e below (T293.setTop (mkF m 229 #[.val (.int p0), .val (.int p1), .val (.int p2), .val (.int p3), .val (.ref b_253), .val (.int vm_), .val .null, .val (.int (1 : Int32)), .val (.ref b255), .val (.ref b_260), .val (.ref c_269), .val (.int (1 : Int32)), .val (.ref c_281), .val (.int (1 : Int32)), .val (.ref b_253), .val (.int (1 : Int32)), .unset, .unset, .unset, .unset] [.null])) _
    refine XS.astore X293.here hx rfl (hb hby at_229) rfl rfl (l' := #[.val (.int p0), .val (.int p1), .val (.int p2), .val (.int p3), .val (.ref b_253), .val (.int vm_), .val .null, .val (.int (1 : Int32)), .val (.ref b255), .val (.ref b_260), .val (.ref c_269), .val (.int (1 : Int32)), .val (.ref c_281), .val (.int (1 : Int32)), .val (.ref b_253), .val (.int (1 : Int32)), .val .null, .unset, .unset, .unset]) rfl ?_
    refine XS.aload X293.here hx rfl (hb hby at_231) rfl rfl ?_
    refine XS.ifnonnullNo X293.here hx rfl (hb hby at_233) rfl ?_
    refine XS.aload X293.here hx rfl (hb hby at_236) rfl rfl ?_
    refine XS.ifnonnullNo X293.here hx rfl (hb hby at_238) rfl ?_
    refine XS.iconst X293.here hx rfl (hb hby at_241) ?_
    refine XS.goto X293.here hx rfl (pc0 := 242) (pc' := 256) rfl (hb hby at_242) (by decide) (by decide) ?_
    refine XS.istore X293.here hx rfl (hb hby at_256) rfl (l' := #[.val (.int p0), .val (.int p1), .val (.int p2), .val (.int p3), .val (.ref b_253), .val (.int vm_), .val .null, .val (.int (1 : Int32)), .val (.ref b255), .val (.ref b_260), .val (.ref c_269), .val (.int (1 : Int32)), .val (.ref c_281), .val (.int (1 : Int32)), .val (.ref b_253), .val (.int (1 : Int32)), .val .null, .val (.int (1 : Int32)), .unset, .unset]) rfl ?_
    show Steps p.tables e below (T293.setTop (mkF m 258 #[.val (.int p0), .val (.int p1), .val (.int p2), .val (.int p3), .val (.ref b_253), .val (.int vm_), .val .null, .val (.int (1 : Int32)), .val (.ref b255), .val (.ref b_260), .val (.ref c_269), .val (.int (1 : Int32)), .val (.ref c_281), .val (.int (1 : Int32)), .val (.ref b_253), .val (.int (1 : Int32)), .val .null, .val (.int (1 : Int32)), .unset, .unset] [])) _
    refine XS.aload X293.here hx rfl (hb hby at_258) rfl rfl ?_
    refine st295.trans ?_
    show Steps p.tables e below (T295.setTop (mkF m 263 #[.val (.int p0), .val (.int p1), .val (.int p2), .val (.int p3), .val (.ref b_253), .val (.int vm_), .val .null, .val (.int (1 : Int32)), .val (.ref b255), .val (.ref b_260), .val (.ref c_269), .val (.int (1 : Int32)), .val (.ref c_281), .val (.int (1 : Int32)), .val (.ref b_253), .val (.int (1 : Int32)), .val .null, .val (.int (1 : Int32)), .unset, .unset] [(.int (0 : Int32))])) _
    refine XS.ifNo X295.here hx rfl (hb hby at_263) rfl ((if0 _ _).trans (teq (by decide : (0 : Int32) = (0 : Int32))).2) ?_
    refine XS.iconst X295.here hx rfl (hb hby at_266) ?_
    refine XS.goto X295.here hx rfl (pc0 := 267) (pc' := 271) rfl (hb hby at_267) (by decide) (by decide) ?_
    refine XS.istore X295.here hx rfl (hb hby at_271) rfl (l' := #[.val (.int p0), .val (.int p1), .val (.int p2), .val (.int p3), .val (.ref b_253), .val (.int vm_), .val .null, .val (.int (1 : Int32)), .val (.ref b255), .val (.ref b_260), .val (.ref c_269), .val (.int (1 : Int32)), .val (.ref c_281), .val (.int (1 : Int32)), .val (.ref b_253), .val (.int (1 : Int32)), .val .null, .val (.int (1 : Int32)), .val (.int (1 : Int32)), .unset]) rfl ?_
    refine XS.aload X295.here hx rfl (hb hby at_273) rfl rfl ?_
    refine st297.trans ?_
    show Steps p.tables e below (T297.setTop (mkF m 278 #[.val (.int p0), .val (.int p1), .val (.int p2), .val (.int p3), .val (.ref b_253), .val (.int vm_), .val .null, .val (.int (1 : Int32)), .val (.ref b255), .val (.ref b_260), .val (.ref c_269), .val (.int (1 : Int32)), .val (.ref c_281), .val (.int (1 : Int32)), .val (.ref b_253), .val (.int (1 : Int32)), .val .null, .val (.int (1 : Int32)), .val (.int (1 : Int32)), .unset] [.null])) _
    refine XS.ifnonnullNo X297.here hx rfl (hb hby at_278) rfl ?_
    refine XS.iconst X297.here hx rfl (hb hby at_281) ?_
    refine XS.goto X297.here hx rfl (pc0 := 282) (pc' := 286) rfl (hb hby at_282) (by decide) (by decide) ?_
    refine XS.istore X297.here hx rfl (hb hby at_286) rfl (l' := #[.val (.int p0), .val (.int p1), .val (.int p2), .val (.int p3), .val (.ref b_253), .val (.int vm_), .val .null, .val (.int (1 : Int32)), .val (.ref b255), .val (.ref b_260), .val (.ref c_269), .val (.int (1 : Int32)), .val (.ref c_281), .val (.int (1 : Int32)), .val (.ref b_253), .val (.int (1 : Int32)), .val .null, .val (.int (1 : Int32)), .val (.int (1 : Int32)), .val (.int (1 : Int32))]) rfl ?_
    refine XS.iload X297.here hx rfl (hb hby at_288) rfl ?_
    refine XS.ifNo X297.here hx rfl (hb hby at_290) rfl ((if0 _ _).trans (feq (by decide : ¬ ((1 : Int32) = (0 : Int32)))).1) ?_
    refine XS.iload X297.here hx rfl (hb hby at_293) rfl ?_
    refine XS.ifNo X297.here hx rfl (hb hby at_295) rfl ((if0 _ _).trans (feq (by decide : ¬ ((1 : Int32) = (0 : Int32)))).1) ?_
    show Steps p.tables e below (T297.setTop (mkF m 298 #[.val (.int p0), .val (.int p1), .val (.int p2), .val (.int p3), .val (.ref b_253), .val (.int vm_), .val .null, .val (.int (1 : Int32)), .val (.ref b255), .val (.ref b_260), .val (.ref c_269), .val (.int (1 : Int32)), .val (.ref c_281), .val (.int (1 : Int32)), .val (.ref b_253), .val (.int (1 : Int32)), .val .null, .val (.int (1 : Int32)), .val (.int (1 : Int32)), .val (.int (1 : Int32))] [])) _
    refine XS.iload X297.here hx rfl (hb hby at_298) rfl ?_
    refine XS.ifNo X297.here hx rfl (hb hby at_300) rfl ((if0 _ _).trans (feq (by decide : ¬ ((1 : Int32) = (0 : Int32)))).1) ?_
    refine XS.iload X297.here hx rfl (hb hby at_303) rfl ?_
    refine XS.ifNo X297.here hx rfl (hb hby at_305) rfl ((if0 _ _).trans (feq (by decide : ¬ ((1 : Int32) = (0 : Int32)))).1) ?_
    refine XS.iload X297.here hx rfl (hb hby at_308) rfl ?_
    refine XS.ifNo X297.here hx rfl (hb hby at_310) rfl ((if0 _ _).trans (feq (by decide : ¬ ((1 : Int32) = (0 : Int32)))).1) ?_
    refine XS.iload X297.here hx rfl (hb hby at_313) rfl ?_
    refine XS.ifNo X297.here hx rfl (hb hby at_315) rfl ((if0 _ _).trans (feq (by decide : ¬ ((1 : Int32) = (0 : Int32)))).1) ?_
    show Steps p.tables e below (T297.setTop (mkF m 318 #[.val (.int p0), .val (.int p1), .val (.int p2), .val (.int p3), .val (.ref b_253), .val (.int vm_), .val .null, .val (.int (1 : Int32)), .val (.ref b255), .val (.ref b_260), .val (.ref c_269), .val (.int (1 : Int32)), .val (.ref c_281), .val (.int (1 : Int32)), .val (.ref b_253), .val (.int (1 : Int32)), .val .null, .val (.int (1 : Int32)), .val (.int (1 : Int32)), .val (.int (1 : Int32))] [])) _
    refine XS.iconst X297.here hx rfl (hb hby at_318) ?_
    refine XS.goto X297.here hx rfl (pc0 := 319) (pc' := 323) rfl (hb hby at_319) (by decide) (by decide) ?_
    exact retN X297 hx (t := .boolean) Bd.returns (by simp) (hb hby at_323) hr
  · show Q0 Z G1 p0 p1 p2 p3 h0 n0 _ T297.heap _
    rw [eq297]
    exact ⟨rfl, N297, K0_286⟩
  · show CHr Z own_EL s.vm s.heap T297.vm T297.heap
    rw [hh, eq297]
    exact hFin
set_option maxRecDepth 65536 in
set_option maxHeartbeats 40000000 in
theorem rm0_2t (l : Launch) (Z : State) (a0 : Array Value) (G1 : Int32) (hG : Glob Z a0 G1) (ws : List Jvm.Cond) (p0 : Int32) (p1 : Int32) (p2 : Int32) (p3 : Int32) (h0 : Heap) (n0 : Nat) (Z0 : n0 ≤ h0.size) (X00 : Old Z n0 h0) (hn : ((((p3.toUInt32 >>> ((5 : Int32) &&& 31).toUInt32).toInt32) &&& (7 : Int32)) % (5 : Int32)) = (2 : Int32)) (hm : ¬ ((((p3.toUInt32 >>> ((2 : Int32) &&& 31).toUInt32).toInt32) &&& (7 : Int32)) = (0 : Int32))) :
    MetFree l x (head1 (Jvm.Cond.code x code maxLocals ret :: ws) room_1) (fun a U => a = #[(.int p0), (.int p1), (.int p2), (.int p3)] ∧ Z.Warmed39 U.vm ∧ U.heap = h0 ∧ CHv Z own_EL U.vm h0) (fun _ _ _ _ _ => True) (fun _ U o U' => ∃ v L, o = .returned v ∧ Q0 Z G1 p0 p1 p2 p3 h0 n0 v U'.heap L ∧ CHr Z own_EL U.vm U.heap U'.vm U'.heap ∧ ReturnedEndW U o U' L room_1.cells room_1.slots) := by
  obtain ⟨hw, O_cs, P_cs⟩ := id hG
  have W : ∀ (i : Nat) {d : Jvm.Cond}, tables_1[i]? = some d → d.before a0 Z = true := fun i d h => hw d (List.mem_of_getElem? h)
  refine MetFree.of_bodySF (plainFor_of_name pn_com_example_larkbridge_larkbridge_mcp_McpResourceContentsBinaryPinLaw) hisR ?_
  intro p e s m args below meth c s₁ Bd hml0 hP hK
  obtain ⟨rfl, hZ, hh, hCH⟩ := hP
  have hx := Bd.exec
  have hby := Bd.bytes
  have hml : c.maxLocals = 20 := hml0
  have hown : s.vm.findClass "com/example/larkbridge/larkbridge/mcp/McpResourceContentsBinaryPinLaw" = some m.cls := findClass_of_methodNamed Bd.named
  have hnm := (name_of_methodNamed Bd.named Bd.method).1
  have X0 : Stand p l e room_1 (s.setVm s.vm) m #[(.int p0), (.int p1), (.int p2), (.int p3)] below meth c s₁ [] 0 0 := Stand.of_body Bd
  have e0 : s₁.heap = h0 := by rw [← hh, Bd.state]; rfl
  have hS0 : s.Since s.vm h0.size := (State.WarmedH.refl s).since _
  have hk0 : h0.size ≤ h0.size := Nat.le_refl _
  have R0 : CHr Z own_EL s.vm h0 s.vm h0 := CHr.refl hCH
  have hEL := own_ew hw
  have N0 := Fr.nil n0
  have pre0 : ∀ t, Steps p.tables e below (s₁.setTop (mkF m 0 #[.val (.int p0), .val (.int p1), .val (.int p2), .val (.int p3), .unset, .unset, .unset, .unset, .unset, .unset, .unset, .unset, .unset, .unset, .unset, .unset, .unset, .unset, .unset, .unset] [])) t → Steps p.tables e below (s₁.setTop (entryFrame m #[(.int p0), (.int p1), (.int p2), (.int p3)] maxLocals)) t := fun t kk_ => castTop (ef_code_IIII m p0 p1 p2 p3) kk_
  -- pc 4: com/example/larkbridge/larkbridge/mcp/McpResourceContentsBinaryPinLaw.str
  obtain ⟨_, _, ⟨T298, L298, k298, n298⟩, -, X298, hS298, hG298, ⟨Lc298, hQ298, l298, y298, z298, hC298⟩, st298⟩ := callSS X0 hx (y := y3) hown (mvT hZ (W 0 rfl)) (mvT hZ (W 1 rfl)) (mvT hZ (W 2 rfl)) (mvT hZ (W 3 rfl)) (by decide) (backOfSH (s := s) (W := 0) (rmstr l Z a0 G1 hG [] p0 (p3 &&& (3 : Int32)) h0 n0 Z0 X00) hZ (W 3 rfl) (W 2 rfl) (by decide) (by decide) hEL R0.1) (g := (mkF m 4 #[.val (.int p0), .val (.int p1), .val (.int p2), .val (.int p3), .unset, .unset, .unset, .unset, .unset, .unset, .unset, .unset, .unset, .unset, .unset, .unset, .unset, .unset, .unset, .unset] [(.int (p3 &&& (3 : Int32))), (.int p0)])) rfl (by rw [hml]; rfl) (argsL := [(.int p0), (.int (p3 &&& (3 : Int32)))]) (rest := []) (lenOf pd__II_Ljava_lang_String_ rfl) rfl (by show 2 * 0 + _ ≤ _; exact Nat.le_of_eq rfl) (hb hby at_4) (fun _ _ => ⟨rfl, e0, (by decide : 0 + 6 ≤ _), (by decide : 0 + 12 ≤ _)⟩)
  dsimp only [Pt.U, Pt.locs, Pt.cells, Pt.slots] at X298 l298 y298 z298 st298 hQ298 hS298 hG298 hC298
  subst l298 y298 z298
  have hZ298 : Z.Warmed39 T298.vm := State.Warmed39.trans (t := s.setVm s.vm) hZ hS298.1
  have hw298 : T298.vm.findClass "com/example/larkbridge/larkbridge/mcp/McpResourceContentsBinaryPinLaw" = some m.cls := by rw [hS298.1.alike.findClass]; exact hown
  have hSn298 : s.Since T298.vm T298.heap.size := hS0.trans hS298 (Nat.le_trans hk0 (by have q := hG298; rw [e0] at q; exact q))
  have X298 : Stand p l e _ (s.setVm T298.vm) m _ below meth c T298 _ _ _ := X298
  obtain ⟨b_298, rfl, N298q, K298, f298_0, f298_1⟩ := hQ298
  have N298 := Fr.app N0 N298q
  have Z299 : n0 ≤ T298.heap.size := Nat.le_trans Z0 K298.1
  have K0_299 : Keep h0 T298.heap [] := (Keep.refl h0 []).trans K298 all0
  have O299 : Old Z n0 T298.heap := X00.keep K298 all0
  have hkw298 : T298.heap.size ≤ T298.heap.size := Nat.le_refl _
  have Rb298 : CHr Z own_EL s.vm h0 T298.vm T298.heap := R0.trans hC298
  have lo_b_298 : h0.size ≤ b_298 := f298_0
  have g_b_298 : n0 ≤ b_298 := Nat.le_trans Z0 lo_b_298
  have l0_b_298 : h0.size ≤ b_298 := Nat.le_trans (Keep.refl h0 []).1 lo_b_298
  obtain ⟨vm_, hvm⟩ : ∃ z : Int32, z = (((p3.toUInt32 >>> ((2 : Int32) &&& 31).toUInt32).toInt32) &&& (7 : Int32)) := ⟨_, rfl⟩
  -- pc 31: com/example/larkbridge/larkbridge/mcp/McpResourceContentsBinaryPinLaw.str
  obtain ⟨_, _, ⟨T300, L300, k300, n300⟩, -, X300, hS300, hG300, ⟨Lc300, hQ300, l300, y300, z300, hC300⟩, st300⟩ := callSS X298 hx (y := y3) hw298 (mvT hZ298 (W 0 rfl)) (mvT hZ298 (W 1 rfl)) (mvT hZ298 (W 2 rfl)) (mvT hZ298 (W 3 rfl)) (by decide) (backOfSH (s := s) (W := 0) (rmstr l Z a0 G1 hG [] p1 (vm_ &&& (3 : Int32)) T298.heap n0 Z299 O299) hZ298 (W 3 rfl) (W 2 rfl) (by decide) (by decide) hEL Rb298.1) (g := (mkF m 31 #[.val (.int p0), .val (.int p1), .val (.int p2), .val (.int p3), .val (.ref b_298), .val (.int vm_), .unset, .unset, .unset, .unset, .unset, .unset, .unset, .unset, .unset, .unset, .unset, .unset, .unset, .unset] [(.int (vm_ &&& (3 : Int32))), (.int p1)])) rfl (by rw [hml]; rfl) (argsL := [(.int p1), (.int (vm_ &&& (3 : Int32)))]) (rest := []) (lenOf pd__II_Ljava_lang_String_ rfl) rfl (by show 2 * 0 + _ ≤ _; exact Nat.le_of_eq rfl) (hb hby at_31) (fun _ _ => ⟨rfl, rfl, (by decide : 6 + 6 ≤ _), (by decide : 12 + 12 ≤ _)⟩)
  dsimp only [Pt.U, Pt.locs, Pt.cells, Pt.slots] at X300 l300 y300 z300 st300 hQ300 hS300 hG300 hC300
  subst l300 y300 z300
  have hZ300 : Z.Warmed39 T300.vm := State.Warmed39.trans (t := s.setVm T298.vm) hZ298 hS300.1
  have hw300 : T300.vm.findClass "com/example/larkbridge/larkbridge/mcp/McpResourceContentsBinaryPinLaw" = some m.cls := by rw [hS300.1.alike.findClass]; exact hw298
  have hSn300 : s.Since T300.vm T300.heap.size := hSn298.trans hS300 (Nat.le_trans hkw298 (hG300))
  have X300 : Stand p l e _ (s.setVm T300.vm) m _ below meth c T300 _ _ _ := X300
  obtain ⟨b_300, rfl, N300q, K300, f300_0, f300_1⟩ := hQ300
  have N300 := Fr.app N298 N300q
  have Z301 : n0 ≤ T300.heap.size := Nat.le_trans Z299 K300.1
  have K0_301 : Keep h0 T300.heap [] := K0_299.trans K300 all0
  have O301 : Old Z n0 T300.heap := O299.keep K300 all0
  have hkw300 : T300.heap.size ≤ T300.heap.size := Nat.le_refl _
  have Rb300 : CHr Z own_EL s.vm h0 T300.vm T300.heap := Rb298.trans hC300
  have lo_b_300 : T298.heap.size ≤ b_300 := f300_0
  have g_b_300 : n0 ≤ b_300 := Nat.le_trans Z299 lo_b_300
  have l0_b_300 : h0.size ≤ b_300 := Nat.le_trans K0_299.1 lo_b_300
  obtain ⟨T302, h302, k302, X302, e302, E302, A302, Q302, st302⟩ := newPE X300 hx hZ300 (W 23 rfl) rfl (g := (mkF m 48 #[.val (.int p0), .val (.int p1), .val (.int p2), .val (.int p3), .val (.ref b_298), .val (.int vm_), .val (.ref b_300), .val (.int (2 : Int32)), .unset, .unset, .unset, .unset, .unset, .unset, .unset, .unset, .unset, .unset, .unset, .unset] [(.int (2 : Int32))])) rfl (hb hby at_48) rfl (by decide) (cap := 2) (by decide) (by decide) (by decide) (by decide) (ad := "[B") rfl
  obtain ⟨b302, g302⟩ : ∃ z, z = T300.heap.size := ⟨_, rfl⟩
  rw [← g302] at A302 Q302 st302
  have Z303 : n0 ≤ h302.size := Nat.le_trans Z301 E302.1
  have K0_303 : Keep h0 h302 [] := K0_301.ext E302
  have O303 : Old Z n0 h302 := O301.ext E302
  have R303 : CHr Z own_EL s.vm h0 T300.vm h302 := Rb300.trans (CHr.ext E302 Rb300.1)
  have hk303 : T300.heap.size ≤ h302.size := Nat.le_trans hkw300 E302.1
  have lo_b302 : T300.heap.size ≤ b302 := Nat.le_of_eq g302.symm
  have g_b302 : n0 ≤ b302 := Nat.le_trans Z301 lo_b302
  have l0_b302 : h0.size ≤ b302 := Nat.le_trans K0_301.1 lo_b302
  have sfb302 : Safe Z own_EL T300.vm h302 b302 := Safe.ext E302 Rb300.1 (Safe.new lo_b302)
  have V_b302 : Arv Z h302 b302 k302 .byte (2 : Int32) [(.int (0 : Int32)), (.int (0 : Int32))] (.int (0 : Int32)) := (Arv.new A302 (by decide)).pad (pad_rep [] (.int (0 : Int32)) 2)
  obtain ⟨clq304, Arq304, qaq304, Sq304, Nq304, Hq304, Gq304⟩ := id V_b302
  have hinq304 : ¬ ((0 : Int32) < 0 ∨ clq304.slots.size ≤ ((0 : Int32)).toNatClampNeg) := inb_of Sq304 ⟨by decide, by decide⟩
  obtain ⟨T305, h305, X305, e305, W305, st305⟩ := stB X302 hx hZ300 e302 Arq304 (j := (0 : Int32)) hinq304 (g := (mkF m 62 #[.val (.int p0), .val (.int p1), .val (.int p2), .val (.int p3), .val (.ref b_298), .val (.int vm_), .val (.ref b_300), .val (.int (2 : Int32)), .val (.ref b302), .unset, .unset, .unset, .unset, .unset, .unset, .unset, .unset, .unset, .unset, .unset] [(.int (p2.toInt8.toInt32)), (.int (0 : Int32)), (.ref b302)])) rfl rfl (hb hby at_62)
  have V305 : Arv Z h305 b302 k302 .byte (2 : Int32) [(.int ((p2.toInt8.toInt32).toInt8.toInt32)), (.int (0 : Int32))] (.int (0 : Int32)) := Arv.set Arq304 qaq304 Sq304 Nq304 Hq304 Gq304 (fits_nar_byte _) W305 0 rfl (Nat.le_of_ble_eq_true rfl)
  have Z306 : n0 ≤ h305.size := Nat.le_trans Z303 (Keep.of_wr W305).1
  have K0_306 : Keep h0 h305 [] := K0_303.wr W305 (Or.inr l0_b302)
  have O306 : Old Z n0 h305 := O303.wr W305 g_b302
  have R306 : CHr Z own_EL s.vm h0 T300.vm h305 := R303.trans (CHr.wr W305 sfb302 R303.1)
  have hk306 : T300.heap.size ≤ h305.size := Nat.le_trans hk303 (Keep.of_wr W305).1
  have sf306_b302 : Safe Z own_EL T300.vm h305 b302 := Safe.wr W305 sfb302 R303.1 sfb302
  have N305 := Fr.snoc X305 N300 g_b302
  obtain ⟨clq307, Arq307, qaq307, Sq307, Nq307, Hq307, Gq307⟩ := id V305
  have hinq307 : ¬ ((1 : Int32) < 0 ∨ clq307.slots.size ≤ ((1 : Int32)).toNatClampNeg) := inb_of Sq307 ⟨by decide, by decide⟩
  obtain ⟨T308, h308, X308, e308, W308, st308⟩ := stB X305 hx hZ300 e305 Arq307 (j := (1 : Int32)) hinq307 (g := (mkF m 77 #[.val (.int p0), .val (.int p1), .val (.int p2), .val (.int p3), .val (.ref b_298), .val (.int vm_), .val (.ref b_300), .val (.int (2 : Int32)), .val (.ref b302), .unset, .unset, .unset, .unset, .unset, .unset, .unset, .unset, .unset, .unset, .unset] [(.int (((p2.toUInt32 >>> ((8 : Int32) &&& 31).toUInt32).toInt32).toInt8.toInt32)), (.int (1 : Int32)), (.ref b302)])) rfl rfl (hb hby at_77)
  have V308 : Arv Z h308 b302 k302 .byte (2 : Int32) [(.int ((p2.toInt8.toInt32).toInt8.toInt32)), (.int ((((p2.toUInt32 >>> ((8 : Int32) &&& 31).toUInt32).toInt32).toInt8.toInt32).toInt8.toInt32))] (.int (0 : Int32)) := Arv.set Arq307 qaq307 Sq307 Nq307 Hq307 Gq307 (fits_nar_byte _) W308 1 rfl (Nat.le_of_ble_eq_true rfl)
  have Z309 : n0 ≤ h308.size := Nat.le_trans Z306 (Keep.of_wr W308).1
  have K0_309 : Keep h0 h308 [] := K0_306.wr W308 (Or.inr l0_b302)
  have O309 : Old Z n0 h308 := O306.wr W308 g_b302
  have R309 : CHr Z own_EL s.vm h0 T300.vm h308 := R306.trans (CHr.wr W308 sf306_b302 R306.1)
  have hk309 : T300.heap.size ≤ h308.size := Nat.le_trans hk306 (Keep.of_wr W308).1
  have sf309_b302 : Safe Z own_EL T300.vm h308 b302 := Safe.wr W308 sf306_b302 R306.1 sf306_b302
  have N308 := Fr.snoc X308 N305 g_b302
  have f311 := ((((f298_1.keep K300).ext E302).wr W305).wr W308)
  have f312 := ((Q302.wr W305).wr W308)
  -- pc 114: com/example/larkbridge/larkbridge/mcp/McpResourceContents.binary
  obtain ⟨_, _, ⟨T310, L310, k310, n310⟩, -, X310, hS310, hG310, ⟨Lc310, hQ310, l310, y310, z310, hC310⟩, st310⟩ := callSS X308 hx (y := y5) hw300 (mvT hZ300 (W 34 rfl)) (mvT hZ300 (W 35 rfl)) (mvT hZ300 (W 36 rfl)) (mvT hZ300 (W 37 rfl)) (by decide) (backOfSH (s := s) (W := 0) (rmmcb l Z a0 G1 hG [] b_298 (.ref b_300) b302 k302 (2 : Int32) ([(.int ((p2.toInt8.toInt32).toInt8.toInt32)), (.int ((((p2.toUInt32 >>> ((8 : Int32) &&& 31).toUInt32).toInt32).toInt8.toInt32).toInt8.toInt32))] : List Value) h308 n0 Z309 O309 f311 f312 V308 rfl (by decide)) hZ300 (W 37 rfl) (W 36 rfl) (by decide) (by decide) hEL R309.1) (g := (mkF m 114 #[.val (.int p0), .val (.int p1), .val (.int p2), .val (.int p3), .val (.ref b_298), .val (.int vm_), .val (.ref b_300), .val (.int (2 : Int32)), .val (.ref b302), .unset, .unset, .unset, .unset, .unset, .unset, .unset, .unset, .unset, .unset, .unset] [(.ref b302), (.ref b_300), (.ref b_298)])) rfl (by rw [hml]; rfl) (argsL := [(.ref b_298), (.ref b_300), (.ref b302)]) (rest := []) (lenOf pd__Ljava_lang_String_Ljava_lang_String__B_Lcom_example_larkbridge_larkbridge_mcp_McpResourceContents_ rfl) rfl (by show 2 * 0 + _ ≤ _; exact Nat.le_of_eq rfl) (hb hby at_114) (fun _ _ => ⟨rfl, e308, (by decide : 13 + 4 ≤ _), (by decide : 26 + 24 ≤ _)⟩)
  dsimp only [Pt.U, Pt.locs, Pt.cells, Pt.slots] at X310 l310 y310 z310 st310 hQ310 hS310 hG310 hC310
  subst l310 y310 z310
  have hZ310 : Z.Warmed39 T310.vm := State.Warmed39.trans (t := s.setVm T300.vm) hZ300 hS310.1
  have hw310 : T310.vm.findClass "com/example/larkbridge/larkbridge/mcp/McpResourceContentsBinaryPinLaw" = some m.cls := by rw [hS310.1.alike.findClass]; exact hw300
  have hSn310 : s.Since T310.vm T310.heap.size := hSn300.trans hS310 (Nat.le_trans hk309 (by have q := hG310; rw [e308] at q; exact q))
  have X310 : Stand p l e _ (s.setVm T310.vm) m _ below meth c T310 _ _ _ := X310
  obtain ⟨b_310, c_310, rfl, N310q, K310, f310_0, f310_1, f310_2, f310_3, f310_4, f310_5, f310_6, f310_7, f310_8⟩ := hQ310
  have N310 := Fr.app N308 N310q
  have Z313 : n0 ≤ T310.heap.size := Nat.le_trans Z309 K310.1
  have K0_313 : Keep h0 T310.heap [] := K0_309.trans K310 all0
  have O313 : Old Z n0 T310.heap := O309.keep K310 all0
  have hkw310 : T310.heap.size ≤ T310.heap.size := Nat.le_refl _
  have sfw313_b302 : Safe Z own_EL T310.vm T310.heap b302 := hC310.safe f312.lt sf309_b302
  have Rb310 : CHr Z own_EL s.vm h0 T310.vm T310.heap := R309.trans hC310
  have lo_b_310 : h308.size ≤ b_310 := f310_0
  have g_b_310 : n0 ≤ b_310 := Nat.le_trans Z309 lo_b_310
  have l0_b_310 : h0.size ≤ b_310 := Nat.le_trans K0_309.1 lo_b_310
  have lo_c_310 : h308.size ≤ c_310 := f310_1
  have g_c_310 : n0 ≤ c_310 := Nat.le_trans Z309 lo_c_310
  have l0_c_310 : h0.size ≤ c_310 := Nat.le_trans K0_309.1 lo_c_310
  have f314 := (V308.keep K310 nin0)
  obtain ⟨clq315, Arq315, qaq315, Sq315, Nq315, Hq315, Gq315⟩ := id f314
  have hinq315 : ¬ ((0 : Int32) < 0 ∨ clq315.slots.size ≤ ((0 : Int32)).toNatClampNeg) := inb_of Sq315 ⟨by decide, by decide⟩
  have hatq315 : clq315.slots[((0 : Int32)).toNatClampNeg]? = some (.int ((p2.toInt8.toInt32).toInt8.toInt32)) := Has.at Hq315 hinq315 rfl
  obtain ⟨clq316, Arq316, qaq316, Sq316, Nq316, Hq316, Gq316⟩ := id f314
  have hinq316 : ¬ ((0 : Int32) < 0 ∨ clq316.slots.size ≤ ((0 : Int32)).toNatClampNeg) := inb_of Sq316 ⟨by decide, by decide⟩
  obtain ⟨T317, h317, X317, e317, W317, st317⟩ := stB X310 hx hZ310 rfl Arq316 (j := (0 : Int32)) hinq316 (g := (mkF m 134 #[.val (.int p0), .val (.int p1), .val (.int p2), .val (.int p3), .val (.ref b_298), .val (.int vm_), .val (.ref b_300), .val (.int (2 : Int32)), .val (.ref b302), .val (.ref b_310), .unset, .unset, .unset, .unset, .unset, .unset, .unset, .unset, .unset, .unset] [(.int ((((p2.toInt8.toInt32).toInt8.toInt32) ^^^ (-1 : Int32)).toInt8.toInt32)), (.int (0 : Int32)), (.ref b302)])) rfl rfl (hb hby at_134)
  have V317 : Arv Z h317 b302 k302 .byte (2 : Int32) [(.int (((((p2.toInt8.toInt32).toInt8.toInt32) ^^^ (-1 : Int32)).toInt8.toInt32).toInt8.toInt32)), (.int ((((p2.toUInt32 >>> ((8 : Int32) &&& 31).toUInt32).toInt32).toInt8.toInt32).toInt8.toInt32))] (.int (0 : Int32)) := Arv.set Arq316 qaq316 Sq316 Nq316 Hq316 Gq316 (fits_nar_byte _) W317 0 rfl (Nat.le_of_ble_eq_true rfl)
  have Z318 : n0 ≤ h317.size := Nat.le_trans Z313 (Keep.of_wr W317).1
  have K0_318 : Keep h0 h317 [] := K0_313.wr W317 (Or.inr l0_b302)
  have O318 : Old Z n0 h317 := O313.wr W317 g_b302
  have R318 : CHr Z own_EL s.vm h0 T310.vm h317 := Rb310.trans (CHr.wr W317 sfw313_b302 Rb310.1)
  have hk318 : T310.heap.size ≤ h317.size := Nat.le_trans hkw310 (Keep.of_wr W317).1
  have sf318_b302 : Safe Z own_EL T310.vm h317 b302 := Safe.wr W317 sfw313_b302 Rb310.1 sfw313_b302
  have N317 := Fr.snoc X317 N310 g_b302
  have f320 := (f310_8.other W317 (Or.inl (Ne.symm (Nat.ne_of_lt (Nat.lt_of_lt_of_le f312.lt lo_b_310)))))
  have f321 := (f310_3.wr W317)
  have f322 := (f310_4.other W317 (Ne.symm (Nat.ne_of_lt (Nat.lt_of_lt_of_le f312.lt lo_c_310))))
  have f323 := (f310_2.wr W317)
  obtain ⟨cq319, kq319, q319a, q319b, q319c⟩ := isOf hZ310 e317 f323
  -- pc 154: com/example/larkbridge/larkbridge/mcp/McpResourceContents.bytes
  obtain ⟨_, _, ⟨T319, L319, k319, n319⟩, -, X319, ⟨Lc319, hQ319, l319, y319, z319⟩, st319⟩ := X317.virtualBack hx (y := y6) (z := y6) hw310 (mvT hZ310 (W 69 rfl)) (mvT hZ310 (W 70 rfl)) (notFace_of_selects (args := #[]) (mvT hZ310 (W 72 rfl))) (mvT hZ310 (W 72 rfl)) (mvT hZ310 (W 71 rfl)) (by decide) (backOf (W := 0) (rmbyt l Z a0 G1 hG [] b_310 c_310 k302 (2 : Int32) ([(.int ((p2.toInt8.toInt32).toInt8.toInt32)), (.int ((((p2.toUInt32 >>> ((8 : Int32) &&& 31).toUInt32).toInt32).toInt8.toInt32).toInt8.toInt32))] : List Value) h317 n0 Z318 O318 f320 f321 f322 (by decide)) hZ310 (W 73 rfl) (W 36 rfl) (by decide) (by decide)) q319a q319c (g := (mkF m 154 #[.val (.int p0), .val (.int p1), .val (.int p2), .val (.int p3), .val (.ref b_298), .val (.int vm_), .val (.ref b_300), .val (.int (2 : Int32)), .val (.ref b302), .val (.ref b_310), .unset, .unset, .unset, .unset, .unset, .unset, .unset, .unset, .unset, .unset] [(.ref b_310)])) rfl (by rw [hml]; rfl) (Steps.refl _) (argsL := []) (rest := []) (lenOf pd____B rfl) rfl (by show 2 * 0 + _ ≤ _; exact Nat.le_of_eq rfl) (hb hby at_154) (fun _ _ => ⟨rfl, e317, (by decide : 17 + 1 ≤ _), (by decide : 50 + 4 ≤ _)⟩)
  dsimp only [Pt.U, Pt.locs, Pt.cells, Pt.slots] at X319 l319 y319 z319 st319 hQ319
  subst l319 y319 z319
  obtain ⟨c_319, rfl, N319q, K319, f319_0, f319_1, f319_2⟩ := hQ319
  have N319 := Fr.app N317 N319q
  have Z324 : n0 ≤ T319.heap.size := Nat.le_trans Z318 K319.1
  have K0_324 : Keep h0 T319.heap [] := K0_318.trans K319 all0
  have O324 : Old Z n0 T319.heap := O318.keep K319 all0
  have R324 : CHr Z own_EL s.vm h0 T310.vm T319.heap := R318.trans (CHr.keep K319 sf0 R318.1)
  have hk324 : T310.heap.size ≤ T319.heap.size := Nat.le_trans hk318 K319.1
  have sf324_b302 : Safe Z own_EL T310.vm T319.heap b302 := Safe.keep K319 sf0 R318.1 sf318_b302
  have lo_c_319 : h317.size ≤ c_319 := f319_0
  have g_c_319 : n0 ≤ c_319 := Nat.le_trans Z318 lo_c_319
  have l0_c_319 : h0.size ≤ c_319 := Nat.le_trans K0_318.1 lo_c_319
  have sfc319 : Safe Z own_EL T310.vm T319.heap c_319 := Safe.keep K319 sf0 R318.1 (Safe.new lo_c_319)
  -- pc 164: com/example/larkbridge/larkbridge/mcp/McpResourceContentsBinaryPinLaw.same
  obtain ⟨_, _, ⟨T325, L325, k325, n325⟩, -, X325, ⟨Lc325, hQ325, l325, y325, z325⟩, st325⟩ := Jvm.LawKit.callS X319 hx (y := y12) hw310 (mvT hZ310 (W 74 rfl)) (mvT hZ310 (W 75 rfl)) (mvT hZ310 (W 2 rfl)) (mvT hZ310 (W 76 rfl)) (by decide) (backOf (W := 0) (rmsame2 l Z a0 G1 hG [] c_319 p2 k302 T319.heap n0 Z324 O324 f319_2) hZ310 (W 76 rfl) (W 2 rfl) (by decide) (by decide)) (g := (mkF m 164 #[.val (.int p0), .val (.int p1), .val (.int p2), .val (.int p3), .val (.ref b_298), .val (.int vm_), .val (.ref b_300), .val (.int (2 : Int32)), .val (.ref b302), .val (.ref b_310), .val (.ref c_319), .unset, .unset, .unset, .unset, .unset, .unset, .unset, .unset, .unset] [(.int p2), (.int (2 : Int32)), (.ref c_319)])) rfl (by rw [hml]; rfl) (argsL := [(.ref c_319), (.int (2 : Int32)), (.int p2)]) (rest := []) (lenOf pd___BII_Z rfl) rfl (by show 2 * 0 + _ ≤ _; exact Nat.le_of_eq rfl) (hb hby at_164) (fun _ _ => ⟨rfl, rfl, (by decide : 18 + 0 ≤ _), (by decide : 54 + 0 ≤ _)⟩)
  dsimp only [Pt.U, Pt.locs, Pt.cells, Pt.slots] at X325 l325 y325 z325 st325 hQ325
  subst l325 y325 z325
  obtain ⟨rfl, N325q, eq325⟩ := hQ325
  have N325 := Fr.app N319 N325q
  obtain ⟨clq326, Arq326, qaq326, Sq326, Nq326, Hq326, Gq326⟩ := id f319_2
  obtain ⟨clq327, Arq327, qaq327, Sq327, Nq327, Hq327, Gq327⟩ := id f319_2
  have hinq327 : ¬ ((0 : Int32) < 0 ∨ clq327.slots.size ≤ ((0 : Int32)).toNatClampNeg) := inb_of Sq327 ⟨by decide, by decide⟩
  have hatq327 : clq327.slots[((0 : Int32)).toNatClampNeg]? = some (.int ((p2.toInt8.toInt32).toInt8.toInt32)) := Has.at Hq327 hinq327 rfl
  obtain ⟨clq328, Arq328, qaq328, Sq328, Nq328, Hq328, Gq328⟩ := id f319_2
  have hinq328 : ¬ ((0 : Int32) < 0 ∨ clq328.slots.size ≤ ((0 : Int32)).toNatClampNeg) := inb_of Sq328 ⟨by decide, by decide⟩
  obtain ⟨T329, h329, X329, e329, W329, st329⟩ := stB X325 hx hZ310 eq325 Arq328 (j := (0 : Int32)) hinq328 (g := (mkF m 190 #[.val (.int p0), .val (.int p1), .val (.int p2), .val (.int p3), .val (.ref b_298), .val (.int vm_), .val (.ref b_300), .val (.int (2 : Int32)), .val (.ref b302), .val (.ref b_310), .val (.ref c_319), .val (.int (1 : Int32)), .unset, .unset, .unset, .unset, .unset, .unset, .unset, .unset] [(.int ((((p2.toInt8.toInt32).toInt8.toInt32) ^^^ (-1 : Int32)).toInt8.toInt32)), (.int (0 : Int32)), (.ref c_319)])) rfl rfl (hb hby at_190)
  have V329 : Arv Z h329 c_319 k302 .byte (2 : Int32) [(.int (((((p2.toInt8.toInt32).toInt8.toInt32) ^^^ (-1 : Int32)).toInt8.toInt32).toInt8.toInt32)), (.int ((((p2.toUInt32 >>> ((8 : Int32) &&& 31).toUInt32).toInt32).toInt8.toInt32).toInt8.toInt32))] (.int (0 : Int32)) := Arv.set Arq328 qaq328 Sq328 Nq328 Hq328 Gq328 (fits_nar_byte _) W329 0 rfl (Nat.le_of_ble_eq_true rfl)
  have Z330 : n0 ≤ h329.size := Nat.le_trans Z324 (Keep.of_wr W329).1
  have K0_330 : Keep h0 h329 [] := K0_324.wr W329 (Or.inr l0_c_319)
  have O330 : Old Z n0 h329 := O324.wr W329 g_c_319
  have R330 : CHr Z own_EL s.vm h0 T310.vm h329 := R324.trans (CHr.wr W329 sfc319 R324.1)
  have hk330 : T310.heap.size ≤ h329.size := Nat.le_trans hk324 (Keep.of_wr W329).1
  have sf330_b302 : Safe Z own_EL T310.vm h329 b302 := Safe.wr W329 sfc319 R324.1 sf324_b302
  have sf330_c_319 : Safe Z own_EL T310.vm h329 c_319 := Safe.wr W329 sfc319 R324.1 sfc319
  have N329 := Fr.snoc X329 N325 g_c_319
  have f332 := ((f320.keep K319 nin0).other W329 (Or.inl (Nat.ne_of_lt (Nat.lt_of_lt_of_le f323.lt lo_c_319))))
  have f333 := ((f321.keep K319).wr W329)
  have f334 := ((f322.keep K319 nin0).other W329 (Nat.ne_of_lt (Nat.lt_of_lt_of_le f321.lt lo_c_319)))
  have f335 := ((f323.keep K319).wr W329)
  obtain ⟨cq331, kq331, q331a, q331b, q331c⟩ := isOf hZ310 e329 f335
  -- pc 193: com/example/larkbridge/larkbridge/mcp/McpResourceContents.bytes
  obtain ⟨_, _, ⟨T331, L331, k331, n331⟩, -, X331, ⟨Lc331, hQ331, l331, y331, z331⟩, st331⟩ := X329.virtualBack hx (y := y6) (z := y6) hw310 (mvT hZ310 (W 69 rfl)) (mvT hZ310 (W 70 rfl)) (notFace_of_selects (args := #[]) (mvT hZ310 (W 72 rfl))) (mvT hZ310 (W 72 rfl)) (mvT hZ310 (W 71 rfl)) (by decide) (backOf (W := 0) (rmbyt l Z a0 G1 hG [] b_310 c_310 k302 (2 : Int32) ([(.int ((p2.toInt8.toInt32).toInt8.toInt32)), (.int ((((p2.toUInt32 >>> ((8 : Int32) &&& 31).toUInt32).toInt32).toInt8.toInt32).toInt8.toInt32))] : List Value) h329 n0 Z330 O330 f332 f333 f334 (by decide)) hZ310 (W 73 rfl) (W 36 rfl) (by decide) (by decide)) q331a q331c (g := (mkF m 193 #[.val (.int p0), .val (.int p1), .val (.int p2), .val (.int p3), .val (.ref b_298), .val (.int vm_), .val (.ref b_300), .val (.int (2 : Int32)), .val (.ref b302), .val (.ref b_310), .val (.ref c_319), .val (.int (1 : Int32)), .unset, .unset, .unset, .unset, .unset, .unset, .unset, .unset] [(.ref b_310)])) rfl (by rw [hml]; rfl) (Steps.refl _) (argsL := []) (rest := []) (lenOf pd____B rfl) rfl (by show 2 * 0 + _ ≤ _; exact Nat.le_of_eq rfl) (hb hby at_193) (fun _ _ => ⟨rfl, e329, (by decide : 18 + 1 ≤ _), (by decide : 54 + 4 ≤ _)⟩)
  dsimp only [Pt.U, Pt.locs, Pt.cells, Pt.slots] at X331 l331 y331 z331 st331 hQ331
  subst l331 y331 z331
  obtain ⟨c_331, rfl, N331q, K331, f331_0, f331_1, f331_2⟩ := hQ331
  have N331 := Fr.app N329 N331q
  have Z336 : n0 ≤ T331.heap.size := Nat.le_trans Z330 K331.1
  have K0_336 : Keep h0 T331.heap [] := K0_330.trans K331 all0
  have O336 : Old Z n0 T331.heap := O330.keep K331 all0
  have R336 : CHr Z own_EL s.vm h0 T310.vm T331.heap := R330.trans (CHr.keep K331 sf0 R330.1)
  have hk336 : T310.heap.size ≤ T331.heap.size := Nat.le_trans hk330 K331.1
  have sf336_b302 : Safe Z own_EL T310.vm T331.heap b302 := Safe.keep K331 sf0 R330.1 sf330_b302
  have sf336_c_319 : Safe Z own_EL T310.vm T331.heap c_319 := Safe.keep K331 sf0 R330.1 sf330_c_319
  have lo_c_331 : h329.size ≤ c_331 := f331_0
  have g_c_331 : n0 ≤ c_331 := Nat.le_trans Z330 lo_c_331
  have l0_c_331 : h0.size ≤ c_331 := Nat.le_trans K0_330.1 lo_c_331
  have sfc331 : Safe Z own_EL T310.vm T331.heap c_331 := Safe.keep K331 sf0 R330.1 (Safe.new lo_c_331)
  -- pc 203: com/example/larkbridge/larkbridge/mcp/McpResourceContentsBinaryPinLaw.same
  obtain ⟨_, _, ⟨T337, L337, k337, n337⟩, -, X337, ⟨Lc337, hQ337, l337, y337, z337⟩, st337⟩ := Jvm.LawKit.callS X331 hx (y := y12) hw310 (mvT hZ310 (W 74 rfl)) (mvT hZ310 (W 75 rfl)) (mvT hZ310 (W 2 rfl)) (mvT hZ310 (W 76 rfl)) (by decide) (backOf (W := 0) (rmsame2 l Z a0 G1 hG [] c_331 p2 k302 T331.heap n0 Z336 O336 f331_2) hZ310 (W 76 rfl) (W 2 rfl) (by decide) (by decide)) (g := (mkF m 203 #[.val (.int p0), .val (.int p1), .val (.int p2), .val (.int p3), .val (.ref b_298), .val (.int vm_), .val (.ref b_300), .val (.int (2 : Int32)), .val (.ref b302), .val (.ref b_310), .val (.ref c_319), .val (.int (1 : Int32)), .val (.ref c_331), .unset, .unset, .unset, .unset, .unset, .unset, .unset] [(.int p2), (.int (2 : Int32)), (.ref c_331)])) rfl (by rw [hml]; rfl) (argsL := [(.ref c_331), (.int (2 : Int32)), (.int p2)]) (rest := []) (lenOf pd___BII_Z rfl) rfl (by show 2 * 0 + _ ≤ _; exact Nat.le_of_eq rfl) (hb hby at_203) (fun _ _ => ⟨rfl, rfl, (by decide : 19 + 0 ≤ _), (by decide : 58 + 0 ≤ _)⟩)
  dsimp only [Pt.U, Pt.locs, Pt.cells, Pt.slots] at X337 l337 y337 z337 st337 hQ337
  subst l337 y337 z337
  obtain ⟨rfl, N337q, eq337⟩ := hQ337
  have N337 := Fr.app N331 N337q
  have f339 := ((((f310_5.other W317 (Or.inl (Ne.symm (Nat.ne_of_lt (Nat.lt_of_lt_of_le f312.lt lo_b_310))))).keep K319 nin0).other W329 (Or.inl (Nat.ne_of_lt (Nat.lt_of_lt_of_le f323.lt lo_c_319)))).keep K331 nin0)
  have f340 := (f335.keep K331)
  obtain ⟨cq338, kq338, q338a, q338b, q338c⟩ := isOf hZ310 eq337 f340
  -- pc 210: com/example/larkbridge/larkbridge/mcp/McpResourceContents.uri
  obtain ⟨_, _, ⟨T338, L338, k338, n338⟩, -, X338, ⟨Lc338, hQ338, l338, y338, z338⟩, st338⟩ := X337.virtualBack hx (y := y7) (z := y7) hw310 (mvT hZ310 (W 77 rfl)) (mvT hZ310 (W 78 rfl)) (notFace_of_selects (args := #[]) (mvT hZ310 (W 80 rfl))) (mvT hZ310 (W 80 rfl)) (mvT hZ310 (W 79 rfl)) (by decide) (backOf (W := 0) (rmG_McpResourceContents_uri l Z a0 G1 hG [] b_310 (.ref b_298) T331.heap n0 Z336 O336 f339 rfl) hZ310 (W 81 rfl) (W 36 rfl) (by decide) (by decide)) q338a q338c (g := (mkF m 210 #[.val (.int p0), .val (.int p1), .val (.int p2), .val (.int p3), .val (.ref b_298), .val (.int vm_), .val (.ref b_300), .val (.int (2 : Int32)), .val (.ref b302), .val (.ref b_310), .val (.ref c_319), .val (.int (1 : Int32)), .val (.ref c_331), .val (.int (1 : Int32)), .unset, .unset, .unset, .unset, .unset, .unset] [(.ref b_310)])) rfl (by rw [hml]; rfl) (Steps.refl _) (argsL := []) (rest := []) (lenOf pd___Ljava_lang_String_ rfl) rfl (by show 2 * 0 + _ ≤ _; exact Nat.le_of_eq rfl) (hb hby at_210) (fun _ _ => ⟨rfl, eq337, (by decide : 19 + 0 ≤ _), (by decide : 58 + 0 ≤ _)⟩)
  dsimp only [Pt.U, Pt.locs, Pt.cells, Pt.slots] at X338 l338 y338 z338 st338 hQ338
  subst l338 y338 z338
  obtain ⟨rfl, N338q, eq338⟩ := hQ338
  have N338 := Fr.app N337 N338q
  have f342 := (((((f311.keep K310).wr W317).keep K319).wr W329).keep K331)
  obtain ⟨cq341, kq341, q341a, q341b, q341c⟩ := isOf hZ310 eq338 f342
  -- pc 219: java/lang/String.equals
  obtain ⟨_, _, ⟨T341, L341, k341, n341⟩, -, X341, ⟨Lc341, hQ341, l341, y341, z341⟩, st341⟩ := X338.virtualBack hx (y := y11) (z := y11) hw310 (mvT hZ310 (W 82 rfl)) (mvT hZ310 (W 83 rfl)) (notFace_of_selects (args := #[]) (mvT hZ310 (W 85 rfl))) (mvT hZ310 (W 85 rfl)) (mvT hZ310 (W 84 rfl)) (by decide) (backOf (W := 0) (rmeqs l Z a0 G1 hG [] b_298 T331.heap n0 Z336 O336) hZ310 (W 86 rfl) (W 6 rfl) (by decide) (by decide)) q341a q341c (g := (mkF m 219 #[.val (.int p0), .val (.int p1), .val (.int p2), .val (.int p3), .val (.ref b_298), .val (.int vm_), .val (.ref b_300), .val (.int (2 : Int32)), .val (.ref b302), .val (.ref b_310), .val (.ref c_319), .val (.int (1 : Int32)), .val (.ref c_331), .val (.int (1 : Int32)), .val (.ref b_298), .unset, .unset, .unset, .unset, .unset] [(.ref b_298), (.ref b_298)])) rfl (by rw [hml]; rfl) (Steps.refl _) (argsL := [(.ref b_298)]) (rest := []) (lenOf pd__Ljava_lang_Object__Z rfl) rfl (by show 2 * 0 + _ ≤ _; exact Nat.le_of_eq rfl) (hb hby at_219) (fun _ _ => ⟨rfl, eq338, (by decide : 19 + 0 ≤ _), (by decide : 58 + 0 ≤ _)⟩)
  dsimp only [Pt.U, Pt.locs, Pt.cells, Pt.slots] at X341 l341 y341 z341 st341 hQ341
  subst l341 y341 z341
  obtain ⟨rfl, N341q, eq341⟩ := hQ341
  have N341 := Fr.app N338 N341q
  have f344 := ((((f310_6.other W317 (Or.inl (Ne.symm (Nat.ne_of_lt (Nat.lt_of_lt_of_le f312.lt lo_b_310))))).keep K319 nin0).other W329 (Or.inl (Nat.ne_of_lt (Nat.lt_of_lt_of_le f323.lt lo_c_319)))).keep K331 nin0)
  obtain ⟨cq343, kq343, q343a, q343b, q343c⟩ := isOf hZ310 eq341 f340
  -- pc 226: com/example/larkbridge/larkbridge/mcp/McpResourceContents.mimeType
  obtain ⟨_, _, ⟨T343, L343, k343, n343⟩, -, X343, ⟨Lc343, hQ343, l343, y343, z343⟩, st343⟩ := X341.virtualBack hx (y := y8) (z := y8) hw310 (mvT hZ310 (W 87 rfl)) (mvT hZ310 (W 88 rfl)) (notFace_of_selects (args := #[]) (mvT hZ310 (W 90 rfl))) (mvT hZ310 (W 90 rfl)) (mvT hZ310 (W 89 rfl)) (by decide) (backOf (W := 0) (rmG_McpResourceContents_mimeType l Z a0 G1 hG [] b_310 (.ref b_300) T331.heap n0 Z336 O336 f344 rfl) hZ310 (W 91 rfl) (W 36 rfl) (by decide) (by decide)) q343a q343c (g := (mkF m 226 #[.val (.int p0), .val (.int p1), .val (.int p2), .val (.int p3), .val (.ref b_298), .val (.int vm_), .val (.ref b_300), .val (.int (2 : Int32)), .val (.ref b302), .val (.ref b_310), .val (.ref c_319), .val (.int (1 : Int32)), .val (.ref c_331), .val (.int (1 : Int32)), .val (.ref b_298), .val (.int (1 : Int32)), .unset, .unset, .unset, .unset] [(.ref b_310)])) rfl (by rw [hml]; rfl) (Steps.refl _) (argsL := []) (rest := []) (lenOf pd___Ljava_lang_String_ rfl) rfl (by show 2 * 0 + _ ≤ _; exact Nat.le_of_eq rfl) (hb hby at_226) (fun _ _ => ⟨rfl, eq341, (by decide : 19 + 0 ≤ _), (by decide : 58 + 0 ≤ _)⟩)
  dsimp only [Pt.U, Pt.locs, Pt.cells, Pt.slots] at X343 l343 y343 z343 st343 hQ343
  subst l343 y343 z343
  obtain ⟨rfl, N343q, eq343⟩ := hQ343
  have N343 := Fr.app N341 N343q
  have f346 := ((((((((f300_1.ext E302).wr W305).wr W308).keep K310).wr W317).keep K319).wr W329).keep K331)
  obtain ⟨cq345, kq345, q345a, q345b, q345c⟩ := isOf hZ310 eq343 f346
  -- pc 253: java/lang/String.equals
  obtain ⟨_, _, ⟨T345, L345, k345, n345⟩, -, X345, ⟨Lc345, hQ345, l345, y345, z345⟩, st345⟩ := X343.virtualBack hx (y := y11) (z := y11) hw310 (mvT hZ310 (W 82 rfl)) (mvT hZ310 (W 83 rfl)) (notFace_of_selects (args := #[]) (mvT hZ310 (W 85 rfl))) (mvT hZ310 (W 85 rfl)) (mvT hZ310 (W 84 rfl)) (by decide) (backOf (W := 0) (rmeqs l Z a0 G1 hG [] b_300 T331.heap n0 Z336 O336) hZ310 (W 86 rfl) (W 6 rfl) (by decide) (by decide)) q345a q345c (g := (mkF m 253 #[.val (.int p0), .val (.int p1), .val (.int p2), .val (.int p3), .val (.ref b_298), .val (.int vm_), .val (.ref b_300), .val (.int (2 : Int32)), .val (.ref b302), .val (.ref b_310), .val (.ref c_319), .val (.int (1 : Int32)), .val (.ref c_331), .val (.int (1 : Int32)), .val (.ref b_298), .val (.int (1 : Int32)), .val (.ref b_300), .unset, .unset, .unset] [(.ref b_300), (.ref b_300)])) rfl (by rw [hml]; rfl) (Steps.refl _) (argsL := [(.ref b_300)]) (rest := []) (lenOf pd__Ljava_lang_Object__Z rfl) rfl (by show 2 * 0 + _ ≤ _; exact Nat.le_of_eq rfl) (hb hby at_253) (fun _ _ => ⟨rfl, eq343, (by decide : 19 + 0 ≤ _), (by decide : 58 + 0 ≤ _)⟩)
  dsimp only [Pt.U, Pt.locs, Pt.cells, Pt.slots] at X345 l345 y345 z345 st345 hQ345
  subst l345 y345 z345
  obtain ⟨rfl, N345q, eq345⟩ := hQ345
  have N345 := Fr.app N343 N345q
  have f348 := ((((f310_7.other W317 (Or.inl (Ne.symm (Nat.ne_of_lt (Nat.lt_of_lt_of_le f312.lt lo_b_310))))).keep K319 nin0).other W329 (Or.inl (Nat.ne_of_lt (Nat.lt_of_lt_of_le f323.lt lo_c_319)))).keep K331 nin0)
  obtain ⟨cq347, kq347, q347a, q347b, q347c⟩ := isOf hZ310 eq345 f340
  -- pc 260: com/example/larkbridge/larkbridge/mcp/McpResourceContents.isText
  obtain ⟨_, _, ⟨T347, L347, k347, n347⟩, -, X347, ⟨Lc347, hQ347, l347, y347, z347⟩, st347⟩ := X345.virtualBack hx (y := y9) (z := y9) hw310 (mvT hZ310 (W 92 rfl)) (mvT hZ310 (W 93 rfl)) (notFace_of_selects (args := #[]) (mvT hZ310 (W 95 rfl))) (mvT hZ310 (W 95 rfl)) (mvT hZ310 (W 94 rfl)) (by decide) (backOf (W := 0) (rmist l Z a0 G1 hG [] b_310 T331.heap n0 Z336 O336 f348) hZ310 (W 96 rfl) (W 36 rfl) (by decide) (by decide)) q347a q347c (g := (mkF m 260 #[.val (.int p0), .val (.int p1), .val (.int p2), .val (.int p3), .val (.ref b_298), .val (.int vm_), .val (.ref b_300), .val (.int (2 : Int32)), .val (.ref b302), .val (.ref b_310), .val (.ref c_319), .val (.int (1 : Int32)), .val (.ref c_331), .val (.int (1 : Int32)), .val (.ref b_298), .val (.int (1 : Int32)), .val (.ref b_300), .val (.int (1 : Int32)), .unset, .unset] [(.ref b_310)])) rfl (by rw [hml]; rfl) (Steps.refl _) (argsL := []) (rest := []) (lenOf pd___Z rfl) rfl (by show 2 * 0 + _ ≤ _; exact Nat.le_of_eq rfl) (hb hby at_260) (fun _ _ => ⟨rfl, eq345, (by decide : 19 + 0 ≤ _), (by decide : 58 + 0 ≤ _)⟩)
  dsimp only [Pt.U, Pt.locs, Pt.cells, Pt.slots] at X347 l347 y347 z347 st347 hQ347
  subst l347 y347 z347
  obtain ⟨rfl, N347q, eq347⟩ := hQ347
  have N347 := Fr.app N345 N347q
  obtain ⟨cq349, kq349, q349a, q349b, q349c⟩ := isOf hZ310 eq347 f340
  -- pc 275: com/example/larkbridge/larkbridge/mcp/McpResourceContents.text
  obtain ⟨_, _, ⟨T349, L349, k349, n349⟩, -, X349, ⟨Lc349, hQ349, l349, y349, z349⟩, st349⟩ := X347.virtualBack hx (y := y10) (z := y10) hw310 (mvT hZ310 (W 97 rfl)) (mvT hZ310 (W 98 rfl)) (notFace_of_selects (args := #[]) (mvT hZ310 (W 100 rfl))) (mvT hZ310 (W 100 rfl)) (mvT hZ310 (W 99 rfl)) (by decide) (backOf (W := 0) (rmtxt l Z a0 G1 hG [] b_310 T331.heap n0 Z336 O336 f348) hZ310 (W 101 rfl) (W 36 rfl) (by decide) (by decide)) q349a q349c (g := (mkF m 275 #[.val (.int p0), .val (.int p1), .val (.int p2), .val (.int p3), .val (.ref b_298), .val (.int vm_), .val (.ref b_300), .val (.int (2 : Int32)), .val (.ref b302), .val (.ref b_310), .val (.ref c_319), .val (.int (1 : Int32)), .val (.ref c_331), .val (.int (1 : Int32)), .val (.ref b_298), .val (.int (1 : Int32)), .val (.ref b_300), .val (.int (1 : Int32)), .val (.int (1 : Int32)), .unset] [(.ref b_310)])) rfl (by rw [hml]; rfl) (Steps.refl _) (argsL := []) (rest := []) (lenOf pd___Ljava_lang_String_ rfl) rfl (by show 2 * 0 + _ ≤ _; exact Nat.le_of_eq rfl) (hb hby at_275) (fun _ _ => ⟨rfl, eq347, (by decide : 19 + 0 ≤ _), (by decide : 58 + 0 ≤ _)⟩)
  dsimp only [Pt.U, Pt.locs, Pt.cells, Pt.slots] at X349 l349 y349 z349 st349 hQ349
  subst l349 y349 z349
  obtain ⟨rfl, N349q, eq349⟩ := hQ349
  have N349 := Fr.app N347 N349q
  obtain ⟨fs, hr, hrun, hended, hend⟩ := Jvm.Stand.leaveW (v := some (.int (1 : Int32))) X349 hSn310 (by rw [eq349]; exact hk336) (fun h => by rw [Bd.returns] at h; cases h)
  have hFin := R336.trans (CHv.at X349 hZ310 hEL R336.1)
  refine ⟨_, _, pre0 _ ?_, hrun, hended, _, _, rfl, ?_, ?_, own_mono hend (Nat.le_of_ble_eq_true rfl) (Nat.le_of_ble_eq_true rfl)⟩
  · show Steps p.tables e below (s₁.setTop (mkF m 0 #[.val (.int p0), .val (.int p1), .val (.int p2), .val (.int p3), .unset, .unset, .unset, .unset, .unset, .unset, .unset, .unset, .unset, .unset, .unset, .unset, .unset, .unset, .unset, .unset] [])) _
    refine XS.iloadN X0.here hx rfl (hb hby at_0) rfl ?_
    refine XS.iloadN X0.here hx rfl (hb hby at_1) rfl ?_
    refine XS.iconst X0.here hx rfl (hb hby at_2) ?_
    refine XS.iand X0.here hx rfl (hb hby at_3) rfl ?_
    refine st298.trans ?_
    show Steps p.tables e below (T298.setTop (mkF m 7 #[.val (.int p0), .val (.int p1), .val (.int p2), .val (.int p3), .unset, .unset, .unset, .unset, .unset, .unset, .unset, .unset, .unset, .unset, .unset, .unset, .unset, .unset, .unset, .unset] [(.ref b_298)])) _
    refine XS.astore X298.here hx rfl (hb hby at_7) rfl rfl (l' := #[.val (.int p0), .val (.int p1), .val (.int p2), .val (.int p3), .val (.ref b_298), .unset, .unset, .unset, .unset, .unset, .unset, .unset, .unset, .unset, .unset, .unset, .unset, .unset, .unset, .unset]) rfl ?_
    refine XS.iloadN X298.here hx rfl (hb hby at_9) rfl ?_
    refine XS.iconst X298.here hx rfl (hb hby at_10) ?_
    refine XS.iushr X298.here hx rfl (hb hby at_11) rfl ?_
    refine XS.bipush X298.here hx rfl (hb hby at_12) ?_
    refine XS.iand X298.here hx rfl (hb hby at_14) rfl ?_
    show Steps p.tables e below (T298.setTop (mkF m 15 #[.val (.int p0), .val (.int p1), .val (.int p2), .val (.int p3), .val (.ref b_298), .unset, .unset, .unset, .unset, .unset, .unset, .unset, .unset, .unset, .unset, .unset, .unset, .unset, .unset, .unset] [(.int (((p3.toUInt32 >>> ((2 : Int32) &&& 31).toUInt32).toInt32) &&& (7 : Int32)))])) _
    rw [← hvm]
    show Steps p.tables e below (T298.setTop (mkF m 15 #[.val (.int p0), .val (.int p1), .val (.int p2), .val (.int p3), .val (.ref b_298), .unset, .unset, .unset, .unset, .unset, .unset, .unset, .unset, .unset, .unset, .unset, .unset, .unset, .unset, .unset] [(.int vm_)])) _
    refine XS.istore X298.here hx rfl (hb hby at_15) rfl (l' := #[.val (.int p0), .val (.int p1), .val (.int p2), .val (.int p3), .val (.ref b_298), .val (.int vm_), .unset, .unset, .unset, .unset, .unset, .unset, .unset, .unset, .unset, .unset, .unset, .unset, .unset, .unset]) rfl ?_
    refine XS.iload X298.here hx rfl (hb hby at_17) rfl ?_
    refine XS.ifYes X298.here hx rfl (pc0 := 19) (pc' := 26) rfl (hb hby at_19) rfl ((if0 _ _).trans (feq ((by rw [hvm]; exact hm) : ¬ (vm_ = (0 : Int32)))).2) (by decide) (by decide) ?_
    refine XS.iloadN X298.here hx rfl (hb hby at_26) rfl ?_
    refine XS.iload X298.here hx rfl (hb hby at_27) rfl ?_
    refine XS.iconst X298.here hx rfl (hb hby at_29) ?_
    refine XS.iand X298.here hx rfl (hb hby at_30) rfl ?_
    refine st300.trans ?_
    show Steps p.tables e below (T300.setTop (mkF m 34 #[.val (.int p0), .val (.int p1), .val (.int p2), .val (.int p3), .val (.ref b_298), .val (.int vm_), .unset, .unset, .unset, .unset, .unset, .unset, .unset, .unset, .unset, .unset, .unset, .unset, .unset, .unset] [(.ref b_300)])) _
    refine XS.astore X300.here hx rfl (hb hby at_34) rfl rfl (l' := #[.val (.int p0), .val (.int p1), .val (.int p2), .val (.int p3), .val (.ref b_298), .val (.int vm_), .val (.ref b_300), .unset, .unset, .unset, .unset, .unset, .unset, .unset, .unset, .unset, .unset, .unset, .unset, .unset]) rfl ?_
    refine XS.iloadN X300.here hx rfl (hb hby at_36) rfl ?_
    refine XS.iconst X300.here hx rfl (hb hby at_37) ?_
    refine XS.iushr X300.here hx rfl (hb hby at_38) rfl ?_
    refine XS.bipush X300.here hx rfl (hb hby at_39) ?_
    refine XS.iand X300.here hx rfl (hb hby at_41) rfl ?_
    refine XS.iconst X300.here hx rfl (hb hby at_42) ?_
    refine iremM (g := (mkF m 43 #[.val (.int p0), .val (.int p1), .val (.int p2), .val (.int p3), .val (.ref b_298), .val (.int vm_), .val (.ref b_300), .unset, .unset, .unset, .unset, .unset, .unset, .unset, .unset, .unset, .unset, .unset, .unset, .unset] [(.int (5 : Int32)), (.int (((p3.toUInt32 >>> ((5 : Int32) &&& 31).toUInt32).toInt32) &&& (7 : Int32)))])) X300 hx rfl (hb hby at_43) rfl (by decide) ?_
    show Steps p.tables e below (T300.setTop (mkF m 44 #[.val (.int p0), .val (.int p1), .val (.int p2), .val (.int p3), .val (.ref b_298), .val (.int vm_), .val (.ref b_300), .unset, .unset, .unset, .unset, .unset, .unset, .unset, .unset, .unset, .unset, .unset, .unset, .unset] [(.int ((((p3.toUInt32 >>> ((5 : Int32) &&& 31).toUInt32).toInt32) &&& (7 : Int32)) % (5 : Int32)))])) _
    rw [hn]
    show Steps p.tables e below (T300.setTop (mkF m 44 #[.val (.int p0), .val (.int p1), .val (.int p2), .val (.int p3), .val (.ref b_298), .val (.int vm_), .val (.ref b_300), .unset, .unset, .unset, .unset, .unset, .unset, .unset, .unset, .unset, .unset, .unset, .unset, .unset] [(.int (2 : Int32))])) _
    refine XS.istore X300.here hx rfl (hb hby at_44) rfl (l' := #[.val (.int p0), .val (.int p1), .val (.int p2), .val (.int p3), .val (.ref b_298), .val (.int vm_), .val (.ref b_300), .val (.int (2 : Int32)), .unset, .unset, .unset, .unset, .unset, .unset, .unset, .unset, .unset, .unset, .unset, .unset]) rfl ?_
    refine XS.iload X300.here hx rfl (hb hby at_46) rfl ?_
    refine st302 _ ?_
    show Steps p.tables e below (T302.setTop (mkF m 50 #[.val (.int p0), .val (.int p1), .val (.int p2), .val (.int p3), .val (.ref b_298), .val (.int vm_), .val (.ref b_300), .val (.int (2 : Int32)), .unset, .unset, .unset, .unset, .unset, .unset, .unset, .unset, .unset, .unset, .unset, .unset] [(.ref b302)])) _
    refine XS.astore X302.here hx rfl (hb hby at_50) rfl rfl (l' := #[.val (.int p0), .val (.int p1), .val (.int p2), .val (.int p3), .val (.ref b_298), .val (.int vm_), .val (.ref b_300), .val (.int (2 : Int32)), .val (.ref b302), .unset, .unset, .unset, .unset, .unset, .unset, .unset, .unset, .unset, .unset, .unset]) rfl ?_
    refine XS.iload X302.here hx rfl (hb hby at_52) rfl ?_
    refine XS.ifNo X302.here hx rfl (hb hby at_54) rfl ((if0 _ _).trans (tlt (by decide : (0 : Int32) < (2 : Int32))).2.2.2) ?_
    refine XS.aload X302.here hx rfl (hb hby at_57) rfl rfl ?_
    refine XS.iconst X302.here hx rfl (hb hby at_59) ?_
    refine XS.iloadN X302.here hx rfl (hb hby at_60) rfl ?_
    refine XS.i2b X302.here hx rfl (hb hby at_61) rfl ?_
    refine st305 _ ?_
    show Steps p.tables e below (T305.setTop (mkF m 63 #[.val (.int p0), .val (.int p1), .val (.int p2), .val (.int p3), .val (.ref b_298), .val (.int vm_), .val (.ref b_300), .val (.int (2 : Int32)), .val (.ref b302), .unset, .unset, .unset, .unset, .unset, .unset, .unset, .unset, .unset, .unset, .unset] [])) _
    refine XS.iload X305.here hx rfl (hb hby at_63) rfl ?_
    refine XS.iconst X305.here hx rfl (hb hby at_65) ?_
    refine XS.icmpNo X305.here hx rfl (hb hby at_66) rfl (tlt (by decide : (1 : Int32) < (2 : Int32))).2.2.2 ?_
    refine XS.aload X305.here hx rfl (hb hby at_69) rfl rfl ?_
    refine XS.iconst X305.here hx rfl (hb hby at_71) ?_
    refine XS.iloadN X305.here hx rfl (hb hby at_72) rfl ?_
    refine XS.bipush X305.here hx rfl (hb hby at_73) ?_
    refine XS.iushr X305.here hx rfl (hb hby at_75) rfl ?_
    show Steps p.tables e below (T305.setTop (mkF m 76 #[.val (.int p0), .val (.int p1), .val (.int p2), .val (.int p3), .val (.ref b_298), .val (.int vm_), .val (.ref b_300), .val (.int (2 : Int32)), .val (.ref b302), .unset, .unset, .unset, .unset, .unset, .unset, .unset, .unset, .unset, .unset, .unset] [(.int ((p2.toUInt32 >>> ((8 : Int32) &&& 31).toUInt32).toInt32)), (.int (1 : Int32)), (.ref b302)])) _
    refine XS.i2b X305.here hx rfl (hb hby at_76) rfl ?_
    refine st308 _ ?_
    show Steps p.tables e below (T308.setTop (mkF m 78 #[.val (.int p0), .val (.int p1), .val (.int p2), .val (.int p3), .val (.ref b_298), .val (.int vm_), .val (.ref b_300), .val (.int (2 : Int32)), .val (.ref b302), .unset, .unset, .unset, .unset, .unset, .unset, .unset, .unset, .unset, .unset, .unset] [])) _
    refine XS.iload X308.here hx rfl (hb hby at_78) rfl ?_
    refine XS.iconst X308.here hx rfl (hb hby at_80) ?_
    refine XS.icmpYes X308.here hx rfl (pc0 := 81) (pc' := 93) rfl (hb hby at_81) rfl (flt (by decide : ¬ ((2 : Int32) < (2 : Int32)))).2.2.2 (by decide) (by decide) ?_
    refine XS.iload X308.here hx rfl (hb hby at_93) rfl ?_
    refine XS.iconst X308.here hx rfl (hb hby at_95) ?_
    refine XS.icmpYes X308.here hx rfl (pc0 := 96) (pc' := 108) rfl (hb hby at_96) rfl (flt (by decide : ¬ ((3 : Int32) < (2 : Int32)))).2.2.2 (by decide) (by decide) ?_
    refine XS.aload X308.here hx rfl (hb hby at_108) rfl rfl ?_
    refine XS.aload X308.here hx rfl (hb hby at_110) rfl rfl ?_
    show Steps p.tables e below (T308.setTop (mkF m 112 #[.val (.int p0), .val (.int p1), .val (.int p2), .val (.int p3), .val (.ref b_298), .val (.int vm_), .val (.ref b_300), .val (.int (2 : Int32)), .val (.ref b302), .unset, .unset, .unset, .unset, .unset, .unset, .unset, .unset, .unset, .unset, .unset] [(.ref b_300), (.ref b_298)])) _
    refine XS.aload X308.here hx rfl (hb hby at_112) rfl rfl ?_
    refine st310.trans ?_
    show Steps p.tables e below (T310.setTop (mkF m 117 #[.val (.int p0), .val (.int p1), .val (.int p2), .val (.int p3), .val (.ref b_298), .val (.int vm_), .val (.ref b_300), .val (.int (2 : Int32)), .val (.ref b302), .unset, .unset, .unset, .unset, .unset, .unset, .unset, .unset, .unset, .unset, .unset] [(.ref b_310)])) _
    refine XS.astore X310.here hx rfl (hb hby at_117) rfl rfl (l' := #[.val (.int p0), .val (.int p1), .val (.int p2), .val (.int p3), .val (.ref b_298), .val (.int vm_), .val (.ref b_300), .val (.int (2 : Int32)), .val (.ref b302), .val (.ref b_310), .unset, .unset, .unset, .unset, .unset, .unset, .unset, .unset, .unset, .unset]) rfl ?_
    refine XS.iload X310.here hx rfl (hb hby at_119) rfl ?_
    refine XS.ifNo X310.here hx rfl (hb hby at_121) rfl ((if0 _ _).trans (tlt (by decide : (0 : Int32) < (2 : Int32))).2.2.2) ?_
    refine XS.aload X310.here hx rfl (hb hby at_124) rfl rfl ?_
    refine XS.iconst X310.here hx rfl (hb hby at_126) ?_
    refine XS.aload X310.here hx rfl (hb hby at_127) rfl rfl ?_
    refine XS.iconst X310.here hx rfl (hb hby at_129) ?_
    refine X310.baloadBytes hx (j := (0 : Int32)) (v := (.int ((p2.toInt8.toInt32).toInt8.toInt32))) (own_cell rfl Arq315.1) (State.isArrayOf_alike hZ310.alike Arq315.2.1) Arq315.2.2 hinq315 hatq315 (g := (mkF m 130 #[.val (.int p0), .val (.int p1), .val (.int p2), .val (.int p3), .val (.ref b_298), .val (.int vm_), .val (.ref b_300), .val (.int (2 : Int32)), .val (.ref b302), .val (.ref b_310), .unset, .unset, .unset, .unset, .unset, .unset, .unset, .unset, .unset, .unset] [(.int (0 : Int32)), (.ref b302), (.int (0 : Int32)), (.ref b302)])) rfl rfl (hb hby at_130) _ ?_
    show Steps p.tables e below (T310.setTop (mkF m 131 #[.val (.int p0), .val (.int p1), .val (.int p2), .val (.int p3), .val (.ref b_298), .val (.int vm_), .val (.ref b_300), .val (.int (2 : Int32)), .val (.ref b302), .val (.ref b_310), .unset, .unset, .unset, .unset, .unset, .unset, .unset, .unset, .unset, .unset] [(.int ((p2.toInt8.toInt32).toInt8.toInt32)), (.int (0 : Int32)), (.ref b302)])) _
    refine XS.iconst X310.here hx rfl (hb hby at_131) ?_
    refine XS.ixor X310.here hx rfl (hb hby at_132) rfl ?_
    refine XS.i2b X310.here hx rfl (hb hby at_133) rfl ?_
    refine st317 _ ?_
    show Steps p.tables e below (T317.setTop (mkF m 135 #[.val (.int p0), .val (.int p1), .val (.int p2), .val (.int p3), .val (.ref b_298), .val (.int vm_), .val (.ref b_300), .val (.int (2 : Int32)), .val (.ref b302), .val (.ref b_310), .unset, .unset, .unset, .unset, .unset, .unset, .unset, .unset, .unset, .unset] [])) _
    refine XS.iload X317.here hx rfl (hb hby at_135) rfl ?_
    refine XS.iconst X317.here hx rfl (hb hby at_137) ?_
    refine XS.icmpYes X317.here hx rfl (pc0 := 138) (pc' := 152) rfl (hb hby at_138) rfl (flt (by decide : ¬ ((3 : Int32) < (2 : Int32)))).2.2.2 (by decide) (by decide) ?_
    refine XS.aload X317.here hx rfl (hb hby at_152) rfl rfl ?_
    refine st319.trans ?_
    show Steps p.tables e below (T319.setTop (mkF m 157 #[.val (.int p0), .val (.int p1), .val (.int p2), .val (.int p3), .val (.ref b_298), .val (.int vm_), .val (.ref b_300), .val (.int (2 : Int32)), .val (.ref b302), .val (.ref b_310), .unset, .unset, .unset, .unset, .unset, .unset, .unset, .unset, .unset, .unset] [(.ref c_319)])) _
    refine XS.astore X319.here hx rfl (hb hby at_157) rfl rfl (l' := #[.val (.int p0), .val (.int p1), .val (.int p2), .val (.int p3), .val (.ref b_298), .val (.int vm_), .val (.ref b_300), .val (.int (2 : Int32)), .val (.ref b302), .val (.ref b_310), .val (.ref c_319), .unset, .unset, .unset, .unset, .unset, .unset, .unset, .unset, .unset]) rfl ?_
    refine XS.aload X319.here hx rfl (hb hby at_159) rfl rfl ?_
    refine XS.iload X319.here hx rfl (hb hby at_161) rfl ?_
    refine XS.iloadN X319.here hx rfl (hb hby at_163) rfl ?_
    refine st325 _ ?_
    show Steps p.tables e below (T325.setTop (mkF m 167 #[.val (.int p0), .val (.int p1), .val (.int p2), .val (.int p3), .val (.ref b_298), .val (.int vm_), .val (.ref b_300), .val (.int (2 : Int32)), .val (.ref b302), .val (.ref b_310), .val (.ref c_319), .unset, .unset, .unset, .unset, .unset, .unset, .unset, .unset, .unset] [(.int (1 : Int32))])) _
    refine XS.istore X325.here hx rfl (hb hby at_167) rfl (l' := #[.val (.int p0), .val (.int p1), .val (.int p2), .val (.int p3), .val (.ref b_298), .val (.int vm_), .val (.ref b_300), .val (.int (2 : Int32)), .val (.ref b302), .val (.ref b_310), .val (.ref c_319), .val (.int (1 : Int32)), .unset, .unset, .unset, .unset, .unset, .unset, .unset, .unset]) rfl ?_
    refine XS.aload X325.here hx rfl (hb hby at_169) rfl rfl ?_
    refine XS.ifnullNo X325.here hx rfl (hb hby at_171) rfl ?_
    refine XS.aload X325.here hx rfl (hb hby at_174) rfl rfl ?_
    refine X325.arraylength hx (own_cell eq325 Arq326.1) (State.isArrayOf_alike hZ310.alike Arq326.2.1) (g := (mkF m 176 #[.val (.int p0), .val (.int p1), .val (.int p2), .val (.int p3), .val (.ref b_298), .val (.int vm_), .val (.ref b_300), .val (.int (2 : Int32)), .val (.ref b302), .val (.ref b_310), .val (.ref c_319), .val (.int (1 : Int32)), .unset, .unset, .unset, .unset, .unset, .unset, .unset, .unset] [(.ref c_319)])) rfl rfl (hb hby at_176) _ ?_
    rw [len_of Sq326 Nq326]
    refine XS.ifNo X325.here hx rfl (hb hby at_177) rfl ((if0 _ _).trans (tlt (by decide : (0 : Int32) < (2 : Int32))).2.2.2) ?_
    refine XS.aload X325.here hx rfl (hb hby at_180) rfl rfl ?_
    refine XS.iconst X325.here hx rfl (hb hby at_182) ?_
    show Steps p.tables e below (T325.setTop (mkF m 183 #[.val (.int p0), .val (.int p1), .val (.int p2), .val (.int p3), .val (.ref b_298), .val (.int vm_), .val (.ref b_300), .val (.int (2 : Int32)), .val (.ref b302), .val (.ref b_310), .val (.ref c_319), .val (.int (1 : Int32)), .unset, .unset, .unset, .unset, .unset, .unset, .unset, .unset] [(.int (0 : Int32)), (.ref c_319)])) _
    refine XS.aload X325.here hx rfl (hb hby at_183) rfl rfl ?_
    refine XS.iconst X325.here hx rfl (hb hby at_185) ?_
    refine X325.baloadBytes hx (j := (0 : Int32)) (v := (.int ((p2.toInt8.toInt32).toInt8.toInt32))) (own_cell eq325 Arq327.1) (State.isArrayOf_alike hZ310.alike Arq327.2.1) Arq327.2.2 hinq327 hatq327 (g := (mkF m 186 #[.val (.int p0), .val (.int p1), .val (.int p2), .val (.int p3), .val (.ref b_298), .val (.int vm_), .val (.ref b_300), .val (.int (2 : Int32)), .val (.ref b302), .val (.ref b_310), .val (.ref c_319), .val (.int (1 : Int32)), .unset, .unset, .unset, .unset, .unset, .unset, .unset, .unset] [(.int (0 : Int32)), (.ref c_319), (.int (0 : Int32)), (.ref c_319)])) rfl rfl (hb hby at_186) _ ?_
    refine XS.iconst X325.here hx rfl (hb hby at_187) ?_
    refine XS.ixor X325.here hx rfl (hb hby at_188) rfl ?_
    refine XS.i2b X325.here hx rfl (hb hby at_189) rfl ?_
    refine st329 _ ?_
    show Steps p.tables e below (T329.setTop (mkF m 191 #[.val (.int p0), .val (.int p1), .val (.int p2), .val (.int p3), .val (.ref b_298), .val (.int vm_), .val (.ref b_300), .val (.int (2 : Int32)), .val (.ref b302), .val (.ref b_310), .val (.ref c_319), .val (.int (1 : Int32)), .unset, .unset, .unset, .unset, .unset, .unset, .unset, .unset] [])) _
    refine XS.aload X329.here hx rfl (hb hby at_191) rfl rfl ?_
    refine st331.trans ?_
    show Steps p.tables e below (T331.setTop (mkF m 196 #[.val (.int p0), .val (.int p1), .val (.int p2), .val (.int p3), .val (.ref b_298), .val (.int vm_), .val (.ref b_300), .val (.int (2 : Int32)), .val (.ref b302), .val (.ref b_310), .val (.ref c_319), .val (.int (1 : Int32)), .unset, .unset, .unset, .unset, .unset, .unset, .unset, .unset] [(.ref c_331)])) _
    refine XS.astore X331.here hx rfl (hb hby at_196) rfl rfl (l' := #[.val (.int p0), .val (.int p1), .val (.int p2), .val (.int p3), .val (.ref b_298), .val (.int vm_), .val (.ref b_300), .val (.int (2 : Int32)), .val (.ref b302), .val (.ref b_310), .val (.ref c_319), .val (.int (1 : Int32)), .val (.ref c_331), .unset, .unset, .unset, .unset, .unset, .unset, .unset]) rfl ?_
    refine XS.aload X331.here hx rfl (hb hby at_198) rfl rfl ?_
    refine XS.iload X331.here hx rfl (hb hby at_200) rfl ?_
    refine XS.iloadN X331.here hx rfl (hb hby at_202) rfl ?_
    refine st337 _ ?_
    show Steps p.tables e below (T337.setTop (mkF m 206 #[.val (.int p0), .val (.int p1), .val (.int p2), .val (.int p3), .val (.ref b_298), .val (.int vm_), .val (.ref b_300), .val (.int (2 : Int32)), .val (.ref b302), .val (.ref b_310), .val (.ref c_319), .val (.int (1 : Int32)), .val (.ref c_331), .unset, .unset, .unset, .unset, .unset, .unset, .unset] [(.int (1 : Int32))])) _
    refine XS.istore X337.here hx rfl (hb hby at_206) rfl (l' := #[.val (.int p0), .val (.int p1), .val (.int p2), .val (.int p3), .val (.ref b_298), .val (.int vm_), .val (.ref b_300), .val (.int (2 : Int32)), .val (.ref b302), .val (.ref b_310), .val (.ref c_319), .val (.int (1 : Int32)), .val (.ref c_331), .val (.int (1 : Int32)), .unset, .unset, .unset, .unset, .unset, .unset]) rfl ?_
    refine XS.aload X337.here hx rfl (hb hby at_208) rfl rfl ?_
    refine st338.trans ?_
    show Steps p.tables e below (T338.setTop (mkF m 213 #[.val (.int p0), .val (.int p1), .val (.int p2), .val (.int p3), .val (.ref b_298), .val (.int vm_), .val (.ref b_300), .val (.int (2 : Int32)), .val (.ref b302), .val (.ref b_310), .val (.ref c_319), .val (.int (1 : Int32)), .val (.ref c_331), .val (.int (1 : Int32)), .unset, .unset, .unset, .unset, .unset, .unset] [(.ref b_298)])) _
    refine XS.astore X338.here hx rfl (hb hby at_213) rfl rfl (l' := #[.val (.int p0), .val (.int p1), .val (.int p2), .val (.int p3), .val (.ref b_298), .val (.int vm_), .val (.ref b_300), .val (.int (2 : Int32)), .val (.ref b302), .val (.ref b_310), .val (.ref c_319), .val (.int (1 : Int32)), .val (.ref c_331), .val (.int (1 : Int32)), .val (.ref b_298), .unset, .unset, .unset, .unset, .unset]) rfl ?_
    refine XS.aload X338.here hx rfl (hb hby at_215) rfl rfl ?_
    refine XS.aload X338.here hx rfl (hb hby at_217) rfl rfl ?_
    refine st341.trans ?_
    show Steps p.tables e below (T341.setTop (mkF m 222 #[.val (.int p0), .val (.int p1), .val (.int p2), .val (.int p3), .val (.ref b_298), .val (.int vm_), .val (.ref b_300), .val (.int (2 : Int32)), .val (.ref b302), .val (.ref b_310), .val (.ref c_319), .val (.int (1 : Int32)), .val (.ref c_331), .val (.int (1 : Int32)), .val (.ref b_298), .unset, .unset, .unset, .unset, .unset] [(.int (1 : Int32))])) _
    refine XS.istore X341.here hx rfl (hb hby at_222) rfl (l' := #[.val (.int p0), .val (.int p1), .val (.int p2), .val (.int p3), .val (.ref b_298), .val (.int vm_), .val (.ref b_300), .val (.int (2 : Int32)), .val (.ref b302), .val (.ref b_310), .val (.ref c_319), .val (.int (1 : Int32)), .val (.ref c_331), .val (.int (1 : Int32)), .val (.ref b_298), .val (.int (1 : Int32)), .unset, .unset, .unset, .unset]) rfl ?_
    refine XS.aload X341.here hx rfl (hb hby at_224) rfl rfl ?_
    refine st343.trans ?_
    show Steps p.tables e below (T343.setTop (mkF m 229 #[.val (.int p0), .val (.int p1), .val (.int p2), .val (.int p3), .val (.ref b_298), .val (.int vm_), .val (.ref b_300), .val (.int (2 : Int32)), .val (.ref b302), .val (.ref b_310), .val (.ref c_319), .val (.int (1 : Int32)), .val (.ref c_331), .val (.int (1 : Int32)), .val (.ref b_298), .val (.int (1 : Int32)), .unset, .unset, .unset, .unset] [(.ref b_300)])) _
    refine XS.astore X343.here hx rfl (hb hby at_229) rfl rfl (l' := #[.val (.int p0), .val (.int p1), .val (.int p2), .val (.int p3), .val (.ref b_298), .val (.int vm_), .val (.ref b_300), .val (.int (2 : Int32)), .val (.ref b302), .val (.ref b_310), .val (.ref c_319), .val (.int (1 : Int32)), .val (.ref c_331), .val (.int (1 : Int32)), .val (.ref b_298), .val (.int (1 : Int32)), .val (.ref b_300), .unset, .unset, .unset]) rfl ?_
    refine XS.aload X343.here hx rfl (hb hby at_231) rfl rfl ?_
    refine XS.ifnonnullYes X343.here hx rfl (pc0 := 233) (pc' := 249) rfl (hb hby at_233) rfl (by decide) (by decide) ?_
    refine XS.aload X343.here hx rfl (hb hby at_249) rfl rfl ?_
    refine XS.aload X343.here hx rfl (hb hby at_251) rfl rfl ?_
    refine st345.trans ?_
    show Steps p.tables e below (T345.setTop (mkF m 256 #[.val (.int p0), .val (.int p1), .val (.int p2), .val (.int p3), .val (.ref b_298), .val (.int vm_), .val (.ref b_300), .val (.int (2 : Int32)), .val (.ref b302), .val (.ref b_310), .val (.ref c_319), .val (.int (1 : Int32)), .val (.ref c_331), .val (.int (1 : Int32)), .val (.ref b_298), .val (.int (1 : Int32)), .val (.ref b_300), .unset, .unset, .unset] [(.int (1 : Int32))])) _
    refine XS.istore X345.here hx rfl (hb hby at_256) rfl (l' := #[.val (.int p0), .val (.int p1), .val (.int p2), .val (.int p3), .val (.ref b_298), .val (.int vm_), .val (.ref b_300), .val (.int (2 : Int32)), .val (.ref b302), .val (.ref b_310), .val (.ref c_319), .val (.int (1 : Int32)), .val (.ref c_331), .val (.int (1 : Int32)), .val (.ref b_298), .val (.int (1 : Int32)), .val (.ref b_300), .val (.int (1 : Int32)), .unset, .unset]) rfl ?_
    refine XS.aload X345.here hx rfl (hb hby at_258) rfl rfl ?_
    refine st347.trans ?_
    show Steps p.tables e below (T347.setTop (mkF m 263 #[.val (.int p0), .val (.int p1), .val (.int p2), .val (.int p3), .val (.ref b_298), .val (.int vm_), .val (.ref b_300), .val (.int (2 : Int32)), .val (.ref b302), .val (.ref b_310), .val (.ref c_319), .val (.int (1 : Int32)), .val (.ref c_331), .val (.int (1 : Int32)), .val (.ref b_298), .val (.int (1 : Int32)), .val (.ref b_300), .val (.int (1 : Int32)), .unset, .unset] [(.int (0 : Int32))])) _
    refine XS.ifNo X347.here hx rfl (hb hby at_263) rfl ((if0 _ _).trans (teq (by decide : (0 : Int32) = (0 : Int32))).2) ?_
    refine XS.iconst X347.here hx rfl (hb hby at_266) ?_
    refine XS.goto X347.here hx rfl (pc0 := 267) (pc' := 271) rfl (hb hby at_267) (by decide) (by decide) ?_
    refine XS.istore X347.here hx rfl (hb hby at_271) rfl (l' := #[.val (.int p0), .val (.int p1), .val (.int p2), .val (.int p3), .val (.ref b_298), .val (.int vm_), .val (.ref b_300), .val (.int (2 : Int32)), .val (.ref b302), .val (.ref b_310), .val (.ref c_319), .val (.int (1 : Int32)), .val (.ref c_331), .val (.int (1 : Int32)), .val (.ref b_298), .val (.int (1 : Int32)), .val (.ref b_300), .val (.int (1 : Int32)), .val (.int (1 : Int32)), .unset]) rfl ?_
    refine XS.aload X347.here hx rfl (hb hby at_273) rfl rfl ?_
    refine st349.trans ?_
    show Steps p.tables e below (T349.setTop (mkF m 278 #[.val (.int p0), .val (.int p1), .val (.int p2), .val (.int p3), .val (.ref b_298), .val (.int vm_), .val (.ref b_300), .val (.int (2 : Int32)), .val (.ref b302), .val (.ref b_310), .val (.ref c_319), .val (.int (1 : Int32)), .val (.ref c_331), .val (.int (1 : Int32)), .val (.ref b_298), .val (.int (1 : Int32)), .val (.ref b_300), .val (.int (1 : Int32)), .val (.int (1 : Int32)), .unset] [.null])) _
    refine XS.ifnonnullNo X349.here hx rfl (hb hby at_278) rfl ?_
    refine XS.iconst X349.here hx rfl (hb hby at_281) ?_
    refine XS.goto X349.here hx rfl (pc0 := 282) (pc' := 286) rfl (hb hby at_282) (by decide) (by decide) ?_
    refine XS.istore X349.here hx rfl (hb hby at_286) rfl (l' := #[.val (.int p0), .val (.int p1), .val (.int p2), .val (.int p3), .val (.ref b_298), .val (.int vm_), .val (.ref b_300), .val (.int (2 : Int32)), .val (.ref b302), .val (.ref b_310), .val (.ref c_319), .val (.int (1 : Int32)), .val (.ref c_331), .val (.int (1 : Int32)), .val (.ref b_298), .val (.int (1 : Int32)), .val (.ref b_300), .val (.int (1 : Int32)), .val (.int (1 : Int32)), .val (.int (1 : Int32))]) rfl ?_
    refine XS.iload X349.here hx rfl (hb hby at_288) rfl ?_
    refine XS.ifNo X349.here hx rfl (hb hby at_290) rfl ((if0 _ _).trans (feq (by decide : ¬ ((1 : Int32) = (0 : Int32)))).1) ?_
    refine XS.iload X349.here hx rfl (hb hby at_293) rfl ?_
    refine XS.ifNo X349.here hx rfl (hb hby at_295) rfl ((if0 _ _).trans (feq (by decide : ¬ ((1 : Int32) = (0 : Int32)))).1) ?_
    show Steps p.tables e below (T349.setTop (mkF m 298 #[.val (.int p0), .val (.int p1), .val (.int p2), .val (.int p3), .val (.ref b_298), .val (.int vm_), .val (.ref b_300), .val (.int (2 : Int32)), .val (.ref b302), .val (.ref b_310), .val (.ref c_319), .val (.int (1 : Int32)), .val (.ref c_331), .val (.int (1 : Int32)), .val (.ref b_298), .val (.int (1 : Int32)), .val (.ref b_300), .val (.int (1 : Int32)), .val (.int (1 : Int32)), .val (.int (1 : Int32))] [])) _
    refine XS.iload X349.here hx rfl (hb hby at_298) rfl ?_
    refine XS.ifNo X349.here hx rfl (hb hby at_300) rfl ((if0 _ _).trans (feq (by decide : ¬ ((1 : Int32) = (0 : Int32)))).1) ?_
    refine XS.iload X349.here hx rfl (hb hby at_303) rfl ?_
    refine XS.ifNo X349.here hx rfl (hb hby at_305) rfl ((if0 _ _).trans (feq (by decide : ¬ ((1 : Int32) = (0 : Int32)))).1) ?_
    refine XS.iload X349.here hx rfl (hb hby at_308) rfl ?_
    refine XS.ifNo X349.here hx rfl (hb hby at_310) rfl ((if0 _ _).trans (feq (by decide : ¬ ((1 : Int32) = (0 : Int32)))).1) ?_
    refine XS.iload X349.here hx rfl (hb hby at_313) rfl ?_
    refine XS.ifNo X349.here hx rfl (hb hby at_315) rfl ((if0 _ _).trans (feq (by decide : ¬ ((1 : Int32) = (0 : Int32)))).1) ?_
    show Steps p.tables e below (T349.setTop (mkF m 318 #[.val (.int p0), .val (.int p1), .val (.int p2), .val (.int p3), .val (.ref b_298), .val (.int vm_), .val (.ref b_300), .val (.int (2 : Int32)), .val (.ref b302), .val (.ref b_310), .val (.ref c_319), .val (.int (1 : Int32)), .val (.ref c_331), .val (.int (1 : Int32)), .val (.ref b_298), .val (.int (1 : Int32)), .val (.ref b_300), .val (.int (1 : Int32)), .val (.int (1 : Int32)), .val (.int (1 : Int32))] [])) _
    refine XS.iconst X349.here hx rfl (hb hby at_318) ?_
    refine XS.goto X349.here hx rfl (pc0 := 319) (pc' := 323) rfl (hb hby at_319) (by decide) (by decide) ?_
    exact retN X349 hx (t := .boolean) Bd.returns (by simp) (hb hby at_323) hr
  · show Q0 Z G1 p0 p1 p2 p3 h0 n0 _ T349.heap _
    rw [eq349]
    exact ⟨rfl, N349, K0_336⟩
  · show CHr Z own_EL s.vm s.heap T349.vm T349.heap
    rw [hh, eq349]
    exact hFin
set_option maxRecDepth 65536 in
set_option maxHeartbeats 40000000 in
theorem rm0_2f (l : Launch) (Z : State) (a0 : Array Value) (G1 : Int32) (hG : Glob Z a0 G1) (ws : List Jvm.Cond) (p0 : Int32) (p1 : Int32) (p2 : Int32) (p3 : Int32) (h0 : Heap) (n0 : Nat) (Z0 : n0 ≤ h0.size) (X00 : Old Z n0 h0) (hn : ((((p3.toUInt32 >>> ((5 : Int32) &&& 31).toUInt32).toInt32) &&& (7 : Int32)) % (5 : Int32)) = (2 : Int32)) (hm : (((p3.toUInt32 >>> ((2 : Int32) &&& 31).toUInt32).toInt32) &&& (7 : Int32)) = (0 : Int32)) :
    MetFree l x (head1 (Jvm.Cond.code x code maxLocals ret :: ws) room_1) (fun a U => a = #[(.int p0), (.int p1), (.int p2), (.int p3)] ∧ Z.Warmed39 U.vm ∧ U.heap = h0 ∧ CHv Z own_EL U.vm h0) (fun _ _ _ _ _ => True) (fun _ U o U' => ∃ v L, o = .returned v ∧ Q0 Z G1 p0 p1 p2 p3 h0 n0 v U'.heap L ∧ CHr Z own_EL U.vm U.heap U'.vm U'.heap ∧ ReturnedEndW U o U' L room_1.cells room_1.slots) := by
  obtain ⟨hw, O_cs, P_cs⟩ := id hG
  have W : ∀ (i : Nat) {d : Jvm.Cond}, tables_1[i]? = some d → d.before a0 Z = true := fun i d h => hw d (List.mem_of_getElem? h)
  refine MetFree.of_bodySF (plainFor_of_name pn_com_example_larkbridge_larkbridge_mcp_McpResourceContentsBinaryPinLaw) hisR ?_
  intro p e s m args below meth c s₁ Bd hml0 hP hK
  obtain ⟨rfl, hZ, hh, hCH⟩ := hP
  have hx := Bd.exec
  have hby := Bd.bytes
  have hml : c.maxLocals = 20 := hml0
  have hown : s.vm.findClass "com/example/larkbridge/larkbridge/mcp/McpResourceContentsBinaryPinLaw" = some m.cls := findClass_of_methodNamed Bd.named
  have hnm := (name_of_methodNamed Bd.named Bd.method).1
  have X0 : Stand p l e room_1 (s.setVm s.vm) m #[(.int p0), (.int p1), (.int p2), (.int p3)] below meth c s₁ [] 0 0 := Stand.of_body Bd
  have e0 : s₁.heap = h0 := by rw [← hh, Bd.state]; rfl
  have hS0 : s.Since s.vm h0.size := (State.WarmedH.refl s).since _
  have hk0 : h0.size ≤ h0.size := Nat.le_refl _
  have R0 : CHr Z own_EL s.vm h0 s.vm h0 := CHr.refl hCH
  have hEL := own_ew hw
  have N0 := Fr.nil n0
  have pre0 : ∀ t, Steps p.tables e below (s₁.setTop (mkF m 0 #[.val (.int p0), .val (.int p1), .val (.int p2), .val (.int p3), .unset, .unset, .unset, .unset, .unset, .unset, .unset, .unset, .unset, .unset, .unset, .unset, .unset, .unset, .unset, .unset] [])) t → Steps p.tables e below (s₁.setTop (entryFrame m #[(.int p0), (.int p1), (.int p2), (.int p3)] maxLocals)) t := fun t kk_ => castTop (ef_code_IIII m p0 p1 p2 p3) kk_
  -- pc 4: com/example/larkbridge/larkbridge/mcp/McpResourceContentsBinaryPinLaw.str
  obtain ⟨_, _, ⟨T350, L350, k350, n350⟩, -, X350, hS350, hG350, ⟨Lc350, hQ350, l350, y350, z350, hC350⟩, st350⟩ := callSS X0 hx (y := y3) hown (mvT hZ (W 0 rfl)) (mvT hZ (W 1 rfl)) (mvT hZ (W 2 rfl)) (mvT hZ (W 3 rfl)) (by decide) (backOfSH (s := s) (W := 0) (rmstr l Z a0 G1 hG [] p0 (p3 &&& (3 : Int32)) h0 n0 Z0 X00) hZ (W 3 rfl) (W 2 rfl) (by decide) (by decide) hEL R0.1) (g := (mkF m 4 #[.val (.int p0), .val (.int p1), .val (.int p2), .val (.int p3), .unset, .unset, .unset, .unset, .unset, .unset, .unset, .unset, .unset, .unset, .unset, .unset, .unset, .unset, .unset, .unset] [(.int (p3 &&& (3 : Int32))), (.int p0)])) rfl (by rw [hml]; rfl) (argsL := [(.int p0), (.int (p3 &&& (3 : Int32)))]) (rest := []) (lenOf pd__II_Ljava_lang_String_ rfl) rfl (by show 2 * 0 + _ ≤ _; exact Nat.le_of_eq rfl) (hb hby at_4) (fun _ _ => ⟨rfl, e0, (by decide : 0 + 6 ≤ _), (by decide : 0 + 12 ≤ _)⟩)
  dsimp only [Pt.U, Pt.locs, Pt.cells, Pt.slots] at X350 l350 y350 z350 st350 hQ350 hS350 hG350 hC350
  subst l350 y350 z350
  have hZ350 : Z.Warmed39 T350.vm := State.Warmed39.trans (t := s.setVm s.vm) hZ hS350.1
  have hw350 : T350.vm.findClass "com/example/larkbridge/larkbridge/mcp/McpResourceContentsBinaryPinLaw" = some m.cls := by rw [hS350.1.alike.findClass]; exact hown
  have hSn350 : s.Since T350.vm T350.heap.size := hS0.trans hS350 (Nat.le_trans hk0 (by have q := hG350; rw [e0] at q; exact q))
  have X350 : Stand p l e _ (s.setVm T350.vm) m _ below meth c T350 _ _ _ := X350
  obtain ⟨b_350, rfl, N350q, K350, f350_0, f350_1⟩ := hQ350
  have N350 := Fr.app N0 N350q
  have Z351 : n0 ≤ T350.heap.size := Nat.le_trans Z0 K350.1
  have K0_351 : Keep h0 T350.heap [] := (Keep.refl h0 []).trans K350 all0
  have O351 : Old Z n0 T350.heap := X00.keep K350 all0
  have hkw350 : T350.heap.size ≤ T350.heap.size := Nat.le_refl _
  have Rb350 : CHr Z own_EL s.vm h0 T350.vm T350.heap := R0.trans hC350
  have lo_b_350 : h0.size ≤ b_350 := f350_0
  have g_b_350 : n0 ≤ b_350 := Nat.le_trans Z0 lo_b_350
  have l0_b_350 : h0.size ≤ b_350 := Nat.le_trans (Keep.refl h0 []).1 lo_b_350
  obtain ⟨vm_, hvm⟩ : ∃ z : Int32, z = (((p3.toUInt32 >>> ((2 : Int32) &&& 31).toUInt32).toInt32) &&& (7 : Int32)) := ⟨_, rfl⟩
  obtain ⟨T352, h352, k352, X352, e352, E352, A352, Q352, st352⟩ := newPE X350 hx hZ350 (W 23 rfl) rfl (g := (mkF m 48 #[.val (.int p0), .val (.int p1), .val (.int p2), .val (.int p3), .val (.ref b_350), .val (.int vm_), .val .null, .val (.int (2 : Int32)), .unset, .unset, .unset, .unset, .unset, .unset, .unset, .unset, .unset, .unset, .unset, .unset] [(.int (2 : Int32))])) rfl (hb hby at_48) rfl (by decide) (cap := 2) (by decide) (by decide) (by decide) (by decide) (ad := "[B") rfl
  obtain ⟨b352, g352⟩ : ∃ z, z = T350.heap.size := ⟨_, rfl⟩
  rw [← g352] at A352 Q352 st352
  have Z353 : n0 ≤ h352.size := Nat.le_trans Z351 E352.1
  have K0_353 : Keep h0 h352 [] := K0_351.ext E352
  have O353 : Old Z n0 h352 := O351.ext E352
  have R353 : CHr Z own_EL s.vm h0 T350.vm h352 := Rb350.trans (CHr.ext E352 Rb350.1)
  have hk353 : T350.heap.size ≤ h352.size := Nat.le_trans hkw350 E352.1
  have lo_b352 : T350.heap.size ≤ b352 := Nat.le_of_eq g352.symm
  have g_b352 : n0 ≤ b352 := Nat.le_trans Z351 lo_b352
  have l0_b352 : h0.size ≤ b352 := Nat.le_trans K0_351.1 lo_b352
  have sfb352 : Safe Z own_EL T350.vm h352 b352 := Safe.ext E352 Rb350.1 (Safe.new lo_b352)
  have V_b352 : Arv Z h352 b352 k352 .byte (2 : Int32) [(.int (0 : Int32)), (.int (0 : Int32))] (.int (0 : Int32)) := (Arv.new A352 (by decide)).pad (pad_rep [] (.int (0 : Int32)) 2)
  obtain ⟨clq354, Arq354, qaq354, Sq354, Nq354, Hq354, Gq354⟩ := id V_b352
  have hinq354 : ¬ ((0 : Int32) < 0 ∨ clq354.slots.size ≤ ((0 : Int32)).toNatClampNeg) := inb_of Sq354 ⟨by decide, by decide⟩
  obtain ⟨T355, h355, X355, e355, W355, st355⟩ := stB X352 hx hZ350 e352 Arq354 (j := (0 : Int32)) hinq354 (g := (mkF m 62 #[.val (.int p0), .val (.int p1), .val (.int p2), .val (.int p3), .val (.ref b_350), .val (.int vm_), .val .null, .val (.int (2 : Int32)), .val (.ref b352), .unset, .unset, .unset, .unset, .unset, .unset, .unset, .unset, .unset, .unset, .unset] [(.int (p2.toInt8.toInt32)), (.int (0 : Int32)), (.ref b352)])) rfl rfl (hb hby at_62)
  have V355 : Arv Z h355 b352 k352 .byte (2 : Int32) [(.int ((p2.toInt8.toInt32).toInt8.toInt32)), (.int (0 : Int32))] (.int (0 : Int32)) := Arv.set Arq354 qaq354 Sq354 Nq354 Hq354 Gq354 (fits_nar_byte _) W355 0 rfl (Nat.le_of_ble_eq_true rfl)
  have Z356 : n0 ≤ h355.size := Nat.le_trans Z353 (Keep.of_wr W355).1
  have K0_356 : Keep h0 h355 [] := K0_353.wr W355 (Or.inr l0_b352)
  have O356 : Old Z n0 h355 := O353.wr W355 g_b352
  have R356 : CHr Z own_EL s.vm h0 T350.vm h355 := R353.trans (CHr.wr W355 sfb352 R353.1)
  have hk356 : T350.heap.size ≤ h355.size := Nat.le_trans hk353 (Keep.of_wr W355).1
  have sf356_b352 : Safe Z own_EL T350.vm h355 b352 := Safe.wr W355 sfb352 R353.1 sfb352
  have N355 := Fr.snoc X355 N350 g_b352
  obtain ⟨clq357, Arq357, qaq357, Sq357, Nq357, Hq357, Gq357⟩ := id V355
  have hinq357 : ¬ ((1 : Int32) < 0 ∨ clq357.slots.size ≤ ((1 : Int32)).toNatClampNeg) := inb_of Sq357 ⟨by decide, by decide⟩
  obtain ⟨T358, h358, X358, e358, W358, st358⟩ := stB X355 hx hZ350 e355 Arq357 (j := (1 : Int32)) hinq357 (g := (mkF m 77 #[.val (.int p0), .val (.int p1), .val (.int p2), .val (.int p3), .val (.ref b_350), .val (.int vm_), .val .null, .val (.int (2 : Int32)), .val (.ref b352), .unset, .unset, .unset, .unset, .unset, .unset, .unset, .unset, .unset, .unset, .unset] [(.int (((p2.toUInt32 >>> ((8 : Int32) &&& 31).toUInt32).toInt32).toInt8.toInt32)), (.int (1 : Int32)), (.ref b352)])) rfl rfl (hb hby at_77)
  have V358 : Arv Z h358 b352 k352 .byte (2 : Int32) [(.int ((p2.toInt8.toInt32).toInt8.toInt32)), (.int ((((p2.toUInt32 >>> ((8 : Int32) &&& 31).toUInt32).toInt32).toInt8.toInt32).toInt8.toInt32))] (.int (0 : Int32)) := Arv.set Arq357 qaq357 Sq357 Nq357 Hq357 Gq357 (fits_nar_byte _) W358 1 rfl (Nat.le_of_ble_eq_true rfl)
  have Z359 : n0 ≤ h358.size := Nat.le_trans Z356 (Keep.of_wr W358).1
  have K0_359 : Keep h0 h358 [] := K0_356.wr W358 (Or.inr l0_b352)
  have O359 : Old Z n0 h358 := O356.wr W358 g_b352
  have R359 : CHr Z own_EL s.vm h0 T350.vm h358 := R356.trans (CHr.wr W358 sf356_b352 R356.1)
  have hk359 : T350.heap.size ≤ h358.size := Nat.le_trans hk356 (Keep.of_wr W358).1
  have sf359_b352 : Safe Z own_EL T350.vm h358 b352 := Safe.wr W358 sf356_b352 R356.1 sf356_b352
  have N358 := Fr.snoc X358 N355 g_b352
  have f361 := (((f350_1.ext E352).wr W355).wr W358)
  have f362 := ((Q352.wr W355).wr W358)
  -- pc 114: com/example/larkbridge/larkbridge/mcp/McpResourceContents.binary
  obtain ⟨_, _, ⟨T360, L360, k360, n360⟩, -, X360, hS360, hG360, ⟨Lc360, hQ360, l360, y360, z360, hC360⟩, st360⟩ := callSS X358 hx (y := y5) hw350 (mvT hZ350 (W 34 rfl)) (mvT hZ350 (W 35 rfl)) (mvT hZ350 (W 36 rfl)) (mvT hZ350 (W 37 rfl)) (by decide) (backOfSH (s := s) (W := 0) (rmmcb l Z a0 G1 hG [] b_350 .null b352 k352 (2 : Int32) ([(.int ((p2.toInt8.toInt32).toInt8.toInt32)), (.int ((((p2.toUInt32 >>> ((8 : Int32) &&& 31).toUInt32).toInt32).toInt8.toInt32).toInt8.toInt32))] : List Value) h358 n0 Z359 O359 f361 f362 V358 rfl (by decide)) hZ350 (W 37 rfl) (W 36 rfl) (by decide) (by decide) hEL R359.1) (g := (mkF m 114 #[.val (.int p0), .val (.int p1), .val (.int p2), .val (.int p3), .val (.ref b_350), .val (.int vm_), .val .null, .val (.int (2 : Int32)), .val (.ref b352), .unset, .unset, .unset, .unset, .unset, .unset, .unset, .unset, .unset, .unset, .unset] [(.ref b352), .null, (.ref b_350)])) rfl (by rw [hml]; rfl) (argsL := [(.ref b_350), .null, (.ref b352)]) (rest := []) (lenOf pd__Ljava_lang_String_Ljava_lang_String__B_Lcom_example_larkbridge_larkbridge_mcp_McpResourceContents_ rfl) rfl (by show 2 * 0 + _ ≤ _; exact Nat.le_of_eq rfl) (hb hby at_114) (fun _ _ => ⟨rfl, e358, (by decide : 7 + 4 ≤ _), (by decide : 14 + 24 ≤ _)⟩)
  dsimp only [Pt.U, Pt.locs, Pt.cells, Pt.slots] at X360 l360 y360 z360 st360 hQ360 hS360 hG360 hC360
  subst l360 y360 z360
  have hZ360 : Z.Warmed39 T360.vm := State.Warmed39.trans (t := s.setVm T350.vm) hZ350 hS360.1
  have hw360 : T360.vm.findClass "com/example/larkbridge/larkbridge/mcp/McpResourceContentsBinaryPinLaw" = some m.cls := by rw [hS360.1.alike.findClass]; exact hw350
  have hSn360 : s.Since T360.vm T360.heap.size := hSn350.trans hS360 (Nat.le_trans hk359 (by have q := hG360; rw [e358] at q; exact q))
  have X360 : Stand p l e _ (s.setVm T360.vm) m _ below meth c T360 _ _ _ := X360
  obtain ⟨b_360, c_360, rfl, N360q, K360, f360_0, f360_1, f360_2, f360_3, f360_4, f360_5, f360_6, f360_7, f360_8⟩ := hQ360
  have N360 := Fr.app N358 N360q
  have Z363 : n0 ≤ T360.heap.size := Nat.le_trans Z359 K360.1
  have K0_363 : Keep h0 T360.heap [] := K0_359.trans K360 all0
  have O363 : Old Z n0 T360.heap := O359.keep K360 all0
  have hkw360 : T360.heap.size ≤ T360.heap.size := Nat.le_refl _
  have sfw363_b352 : Safe Z own_EL T360.vm T360.heap b352 := hC360.safe f362.lt sf359_b352
  have Rb360 : CHr Z own_EL s.vm h0 T360.vm T360.heap := R359.trans hC360
  have lo_b_360 : h358.size ≤ b_360 := f360_0
  have g_b_360 : n0 ≤ b_360 := Nat.le_trans Z359 lo_b_360
  have l0_b_360 : h0.size ≤ b_360 := Nat.le_trans K0_359.1 lo_b_360
  have lo_c_360 : h358.size ≤ c_360 := f360_1
  have g_c_360 : n0 ≤ c_360 := Nat.le_trans Z359 lo_c_360
  have l0_c_360 : h0.size ≤ c_360 := Nat.le_trans K0_359.1 lo_c_360
  have f364 := (V358.keep K360 nin0)
  obtain ⟨clq365, Arq365, qaq365, Sq365, Nq365, Hq365, Gq365⟩ := id f364
  have hinq365 : ¬ ((0 : Int32) < 0 ∨ clq365.slots.size ≤ ((0 : Int32)).toNatClampNeg) := inb_of Sq365 ⟨by decide, by decide⟩
  have hatq365 : clq365.slots[((0 : Int32)).toNatClampNeg]? = some (.int ((p2.toInt8.toInt32).toInt8.toInt32)) := Has.at Hq365 hinq365 rfl
  obtain ⟨clq366, Arq366, qaq366, Sq366, Nq366, Hq366, Gq366⟩ := id f364
  have hinq366 : ¬ ((0 : Int32) < 0 ∨ clq366.slots.size ≤ ((0 : Int32)).toNatClampNeg) := inb_of Sq366 ⟨by decide, by decide⟩
  obtain ⟨T367, h367, X367, e367, W367, st367⟩ := stB X360 hx hZ360 rfl Arq366 (j := (0 : Int32)) hinq366 (g := (mkF m 134 #[.val (.int p0), .val (.int p1), .val (.int p2), .val (.int p3), .val (.ref b_350), .val (.int vm_), .val .null, .val (.int (2 : Int32)), .val (.ref b352), .val (.ref b_360), .unset, .unset, .unset, .unset, .unset, .unset, .unset, .unset, .unset, .unset] [(.int ((((p2.toInt8.toInt32).toInt8.toInt32) ^^^ (-1 : Int32)).toInt8.toInt32)), (.int (0 : Int32)), (.ref b352)])) rfl rfl (hb hby at_134)
  have V367 : Arv Z h367 b352 k352 .byte (2 : Int32) [(.int (((((p2.toInt8.toInt32).toInt8.toInt32) ^^^ (-1 : Int32)).toInt8.toInt32).toInt8.toInt32)), (.int ((((p2.toUInt32 >>> ((8 : Int32) &&& 31).toUInt32).toInt32).toInt8.toInt32).toInt8.toInt32))] (.int (0 : Int32)) := Arv.set Arq366 qaq366 Sq366 Nq366 Hq366 Gq366 (fits_nar_byte _) W367 0 rfl (Nat.le_of_ble_eq_true rfl)
  have Z368 : n0 ≤ h367.size := Nat.le_trans Z363 (Keep.of_wr W367).1
  have K0_368 : Keep h0 h367 [] := K0_363.wr W367 (Or.inr l0_b352)
  have O368 : Old Z n0 h367 := O363.wr W367 g_b352
  have R368 : CHr Z own_EL s.vm h0 T360.vm h367 := Rb360.trans (CHr.wr W367 sfw363_b352 Rb360.1)
  have hk368 : T360.heap.size ≤ h367.size := Nat.le_trans hkw360 (Keep.of_wr W367).1
  have sf368_b352 : Safe Z own_EL T360.vm h367 b352 := Safe.wr W367 sfw363_b352 Rb360.1 sfw363_b352
  have N367 := Fr.snoc X367 N360 g_b352
  have f370 := (f360_8.other W367 (Or.inl (Ne.symm (Nat.ne_of_lt (Nat.lt_of_lt_of_le f362.lt lo_b_360)))))
  have f371 := (f360_3.wr W367)
  have f372 := (f360_4.other W367 (Ne.symm (Nat.ne_of_lt (Nat.lt_of_lt_of_le f362.lt lo_c_360))))
  have f373 := (f360_2.wr W367)
  obtain ⟨cq369, kq369, q369a, q369b, q369c⟩ := isOf hZ360 e367 f373
  -- pc 154: com/example/larkbridge/larkbridge/mcp/McpResourceContents.bytes
  obtain ⟨_, _, ⟨T369, L369, k369, n369⟩, -, X369, ⟨Lc369, hQ369, l369, y369, z369⟩, st369⟩ := X367.virtualBack hx (y := y6) (z := y6) hw360 (mvT hZ360 (W 69 rfl)) (mvT hZ360 (W 70 rfl)) (notFace_of_selects (args := #[]) (mvT hZ360 (W 72 rfl))) (mvT hZ360 (W 72 rfl)) (mvT hZ360 (W 71 rfl)) (by decide) (backOf (W := 0) (rmbyt l Z a0 G1 hG [] b_360 c_360 k352 (2 : Int32) ([(.int ((p2.toInt8.toInt32).toInt8.toInt32)), (.int ((((p2.toUInt32 >>> ((8 : Int32) &&& 31).toUInt32).toInt32).toInt8.toInt32).toInt8.toInt32))] : List Value) h367 n0 Z368 O368 f370 f371 f372 (by decide)) hZ360 (W 73 rfl) (W 36 rfl) (by decide) (by decide)) q369a q369c (g := (mkF m 154 #[.val (.int p0), .val (.int p1), .val (.int p2), .val (.int p3), .val (.ref b_350), .val (.int vm_), .val .null, .val (.int (2 : Int32)), .val (.ref b352), .val (.ref b_360), .unset, .unset, .unset, .unset, .unset, .unset, .unset, .unset, .unset, .unset] [(.ref b_360)])) rfl (by rw [hml]; rfl) (Steps.refl _) (argsL := []) (rest := []) (lenOf pd____B rfl) rfl (by show 2 * 0 + _ ≤ _; exact Nat.le_of_eq rfl) (hb hby at_154) (fun _ _ => ⟨rfl, e367, (by decide : 11 + 1 ≤ _), (by decide : 38 + 4 ≤ _)⟩)
  dsimp only [Pt.U, Pt.locs, Pt.cells, Pt.slots] at X369 l369 y369 z369 st369 hQ369
  subst l369 y369 z369
  obtain ⟨c_369, rfl, N369q, K369, f369_0, f369_1, f369_2⟩ := hQ369
  have N369 := Fr.app N367 N369q
  have Z374 : n0 ≤ T369.heap.size := Nat.le_trans Z368 K369.1
  have K0_374 : Keep h0 T369.heap [] := K0_368.trans K369 all0
  have O374 : Old Z n0 T369.heap := O368.keep K369 all0
  have R374 : CHr Z own_EL s.vm h0 T360.vm T369.heap := R368.trans (CHr.keep K369 sf0 R368.1)
  have hk374 : T360.heap.size ≤ T369.heap.size := Nat.le_trans hk368 K369.1
  have sf374_b352 : Safe Z own_EL T360.vm T369.heap b352 := Safe.keep K369 sf0 R368.1 sf368_b352
  have lo_c_369 : h367.size ≤ c_369 := f369_0
  have g_c_369 : n0 ≤ c_369 := Nat.le_trans Z368 lo_c_369
  have l0_c_369 : h0.size ≤ c_369 := Nat.le_trans K0_368.1 lo_c_369
  have sfc369 : Safe Z own_EL T360.vm T369.heap c_369 := Safe.keep K369 sf0 R368.1 (Safe.new lo_c_369)
  -- pc 164: com/example/larkbridge/larkbridge/mcp/McpResourceContentsBinaryPinLaw.same
  obtain ⟨_, _, ⟨T375, L375, k375, n375⟩, -, X375, ⟨Lc375, hQ375, l375, y375, z375⟩, st375⟩ := Jvm.LawKit.callS X369 hx (y := y12) hw360 (mvT hZ360 (W 74 rfl)) (mvT hZ360 (W 75 rfl)) (mvT hZ360 (W 2 rfl)) (mvT hZ360 (W 76 rfl)) (by decide) (backOf (W := 0) (rmsame2 l Z a0 G1 hG [] c_369 p2 k352 T369.heap n0 Z374 O374 f369_2) hZ360 (W 76 rfl) (W 2 rfl) (by decide) (by decide)) (g := (mkF m 164 #[.val (.int p0), .val (.int p1), .val (.int p2), .val (.int p3), .val (.ref b_350), .val (.int vm_), .val .null, .val (.int (2 : Int32)), .val (.ref b352), .val (.ref b_360), .val (.ref c_369), .unset, .unset, .unset, .unset, .unset, .unset, .unset, .unset, .unset] [(.int p2), (.int (2 : Int32)), (.ref c_369)])) rfl (by rw [hml]; rfl) (argsL := [(.ref c_369), (.int (2 : Int32)), (.int p2)]) (rest := []) (lenOf pd___BII_Z rfl) rfl (by show 2 * 0 + _ ≤ _; exact Nat.le_of_eq rfl) (hb hby at_164) (fun _ _ => ⟨rfl, rfl, (by decide : 12 + 0 ≤ _), (by decide : 42 + 0 ≤ _)⟩)
  dsimp only [Pt.U, Pt.locs, Pt.cells, Pt.slots] at X375 l375 y375 z375 st375 hQ375
  subst l375 y375 z375
  obtain ⟨rfl, N375q, eq375⟩ := hQ375
  have N375 := Fr.app N369 N375q
  obtain ⟨clq376, Arq376, qaq376, Sq376, Nq376, Hq376, Gq376⟩ := id f369_2
  obtain ⟨clq377, Arq377, qaq377, Sq377, Nq377, Hq377, Gq377⟩ := id f369_2
  have hinq377 : ¬ ((0 : Int32) < 0 ∨ clq377.slots.size ≤ ((0 : Int32)).toNatClampNeg) := inb_of Sq377 ⟨by decide, by decide⟩
  have hatq377 : clq377.slots[((0 : Int32)).toNatClampNeg]? = some (.int ((p2.toInt8.toInt32).toInt8.toInt32)) := Has.at Hq377 hinq377 rfl
  obtain ⟨clq378, Arq378, qaq378, Sq378, Nq378, Hq378, Gq378⟩ := id f369_2
  have hinq378 : ¬ ((0 : Int32) < 0 ∨ clq378.slots.size ≤ ((0 : Int32)).toNatClampNeg) := inb_of Sq378 ⟨by decide, by decide⟩
  obtain ⟨T379, h379, X379, e379, W379, st379⟩ := stB X375 hx hZ360 eq375 Arq378 (j := (0 : Int32)) hinq378 (g := (mkF m 190 #[.val (.int p0), .val (.int p1), .val (.int p2), .val (.int p3), .val (.ref b_350), .val (.int vm_), .val .null, .val (.int (2 : Int32)), .val (.ref b352), .val (.ref b_360), .val (.ref c_369), .val (.int (1 : Int32)), .unset, .unset, .unset, .unset, .unset, .unset, .unset, .unset] [(.int ((((p2.toInt8.toInt32).toInt8.toInt32) ^^^ (-1 : Int32)).toInt8.toInt32)), (.int (0 : Int32)), (.ref c_369)])) rfl rfl (hb hby at_190)
  have V379 : Arv Z h379 c_369 k352 .byte (2 : Int32) [(.int (((((p2.toInt8.toInt32).toInt8.toInt32) ^^^ (-1 : Int32)).toInt8.toInt32).toInt8.toInt32)), (.int ((((p2.toUInt32 >>> ((8 : Int32) &&& 31).toUInt32).toInt32).toInt8.toInt32).toInt8.toInt32))] (.int (0 : Int32)) := Arv.set Arq378 qaq378 Sq378 Nq378 Hq378 Gq378 (fits_nar_byte _) W379 0 rfl (Nat.le_of_ble_eq_true rfl)
  have Z380 : n0 ≤ h379.size := Nat.le_trans Z374 (Keep.of_wr W379).1
  have K0_380 : Keep h0 h379 [] := K0_374.wr W379 (Or.inr l0_c_369)
  have O380 : Old Z n0 h379 := O374.wr W379 g_c_369
  have R380 : CHr Z own_EL s.vm h0 T360.vm h379 := R374.trans (CHr.wr W379 sfc369 R374.1)
  have hk380 : T360.heap.size ≤ h379.size := Nat.le_trans hk374 (Keep.of_wr W379).1
  have sf380_b352 : Safe Z own_EL T360.vm h379 b352 := Safe.wr W379 sfc369 R374.1 sf374_b352
  have sf380_c_369 : Safe Z own_EL T360.vm h379 c_369 := Safe.wr W379 sfc369 R374.1 sfc369
  have N379 := Fr.snoc X379 N375 g_c_369
  have f382 := ((f370.keep K369 nin0).other W379 (Or.inl (Nat.ne_of_lt (Nat.lt_of_lt_of_le f373.lt lo_c_369))))
  have f383 := ((f371.keep K369).wr W379)
  have f384 := ((f372.keep K369 nin0).other W379 (Nat.ne_of_lt (Nat.lt_of_lt_of_le f371.lt lo_c_369)))
  have f385 := ((f373.keep K369).wr W379)
  obtain ⟨cq381, kq381, q381a, q381b, q381c⟩ := isOf hZ360 e379 f385
  -- pc 193: com/example/larkbridge/larkbridge/mcp/McpResourceContents.bytes
  obtain ⟨_, _, ⟨T381, L381, k381, n381⟩, -, X381, ⟨Lc381, hQ381, l381, y381, z381⟩, st381⟩ := X379.virtualBack hx (y := y6) (z := y6) hw360 (mvT hZ360 (W 69 rfl)) (mvT hZ360 (W 70 rfl)) (notFace_of_selects (args := #[]) (mvT hZ360 (W 72 rfl))) (mvT hZ360 (W 72 rfl)) (mvT hZ360 (W 71 rfl)) (by decide) (backOf (W := 0) (rmbyt l Z a0 G1 hG [] b_360 c_360 k352 (2 : Int32) ([(.int ((p2.toInt8.toInt32).toInt8.toInt32)), (.int ((((p2.toUInt32 >>> ((8 : Int32) &&& 31).toUInt32).toInt32).toInt8.toInt32).toInt8.toInt32))] : List Value) h379 n0 Z380 O380 f382 f383 f384 (by decide)) hZ360 (W 73 rfl) (W 36 rfl) (by decide) (by decide)) q381a q381c (g := (mkF m 193 #[.val (.int p0), .val (.int p1), .val (.int p2), .val (.int p3), .val (.ref b_350), .val (.int vm_), .val .null, .val (.int (2 : Int32)), .val (.ref b352), .val (.ref b_360), .val (.ref c_369), .val (.int (1 : Int32)), .unset, .unset, .unset, .unset, .unset, .unset, .unset, .unset] [(.ref b_360)])) rfl (by rw [hml]; rfl) (Steps.refl _) (argsL := []) (rest := []) (lenOf pd____B rfl) rfl (by show 2 * 0 + _ ≤ _; exact Nat.le_of_eq rfl) (hb hby at_193) (fun _ _ => ⟨rfl, e379, (by decide : 12 + 1 ≤ _), (by decide : 42 + 4 ≤ _)⟩)
  dsimp only [Pt.U, Pt.locs, Pt.cells, Pt.slots] at X381 l381 y381 z381 st381 hQ381
  subst l381 y381 z381
  obtain ⟨c_381, rfl, N381q, K381, f381_0, f381_1, f381_2⟩ := hQ381
  have N381 := Fr.app N379 N381q
  have Z386 : n0 ≤ T381.heap.size := Nat.le_trans Z380 K381.1
  have K0_386 : Keep h0 T381.heap [] := K0_380.trans K381 all0
  have O386 : Old Z n0 T381.heap := O380.keep K381 all0
  have R386 : CHr Z own_EL s.vm h0 T360.vm T381.heap := R380.trans (CHr.keep K381 sf0 R380.1)
  have hk386 : T360.heap.size ≤ T381.heap.size := Nat.le_trans hk380 K381.1
  have sf386_b352 : Safe Z own_EL T360.vm T381.heap b352 := Safe.keep K381 sf0 R380.1 sf380_b352
  have sf386_c_369 : Safe Z own_EL T360.vm T381.heap c_369 := Safe.keep K381 sf0 R380.1 sf380_c_369
  have lo_c_381 : h379.size ≤ c_381 := f381_0
  have g_c_381 : n0 ≤ c_381 := Nat.le_trans Z380 lo_c_381
  have l0_c_381 : h0.size ≤ c_381 := Nat.le_trans K0_380.1 lo_c_381
  have sfc381 : Safe Z own_EL T360.vm T381.heap c_381 := Safe.keep K381 sf0 R380.1 (Safe.new lo_c_381)
  -- pc 203: com/example/larkbridge/larkbridge/mcp/McpResourceContentsBinaryPinLaw.same
  obtain ⟨_, _, ⟨T387, L387, k387, n387⟩, -, X387, ⟨Lc387, hQ387, l387, y387, z387⟩, st387⟩ := Jvm.LawKit.callS X381 hx (y := y12) hw360 (mvT hZ360 (W 74 rfl)) (mvT hZ360 (W 75 rfl)) (mvT hZ360 (W 2 rfl)) (mvT hZ360 (W 76 rfl)) (by decide) (backOf (W := 0) (rmsame2 l Z a0 G1 hG [] c_381 p2 k352 T381.heap n0 Z386 O386 f381_2) hZ360 (W 76 rfl) (W 2 rfl) (by decide) (by decide)) (g := (mkF m 203 #[.val (.int p0), .val (.int p1), .val (.int p2), .val (.int p3), .val (.ref b_350), .val (.int vm_), .val .null, .val (.int (2 : Int32)), .val (.ref b352), .val (.ref b_360), .val (.ref c_369), .val (.int (1 : Int32)), .val (.ref c_381), .unset, .unset, .unset, .unset, .unset, .unset, .unset] [(.int p2), (.int (2 : Int32)), (.ref c_381)])) rfl (by rw [hml]; rfl) (argsL := [(.ref c_381), (.int (2 : Int32)), (.int p2)]) (rest := []) (lenOf pd___BII_Z rfl) rfl (by show 2 * 0 + _ ≤ _; exact Nat.le_of_eq rfl) (hb hby at_203) (fun _ _ => ⟨rfl, rfl, (by decide : 13 + 0 ≤ _), (by decide : 46 + 0 ≤ _)⟩)
  dsimp only [Pt.U, Pt.locs, Pt.cells, Pt.slots] at X387 l387 y387 z387 st387 hQ387
  subst l387 y387 z387
  obtain ⟨rfl, N387q, eq387⟩ := hQ387
  have N387 := Fr.app N381 N387q
  have f389 := ((((f360_5.other W367 (Or.inl (Ne.symm (Nat.ne_of_lt (Nat.lt_of_lt_of_le f362.lt lo_b_360))))).keep K369 nin0).other W379 (Or.inl (Nat.ne_of_lt (Nat.lt_of_lt_of_le f373.lt lo_c_369)))).keep K381 nin0)
  have f390 := (f385.keep K381)
  obtain ⟨cq388, kq388, q388a, q388b, q388c⟩ := isOf hZ360 eq387 f390
  -- pc 210: com/example/larkbridge/larkbridge/mcp/McpResourceContents.uri
  obtain ⟨_, _, ⟨T388, L388, k388, n388⟩, -, X388, ⟨Lc388, hQ388, l388, y388, z388⟩, st388⟩ := X387.virtualBack hx (y := y7) (z := y7) hw360 (mvT hZ360 (W 77 rfl)) (mvT hZ360 (W 78 rfl)) (notFace_of_selects (args := #[]) (mvT hZ360 (W 80 rfl))) (mvT hZ360 (W 80 rfl)) (mvT hZ360 (W 79 rfl)) (by decide) (backOf (W := 0) (rmG_McpResourceContents_uri l Z a0 G1 hG [] b_360 (.ref b_350) T381.heap n0 Z386 O386 f389 rfl) hZ360 (W 81 rfl) (W 36 rfl) (by decide) (by decide)) q388a q388c (g := (mkF m 210 #[.val (.int p0), .val (.int p1), .val (.int p2), .val (.int p3), .val (.ref b_350), .val (.int vm_), .val .null, .val (.int (2 : Int32)), .val (.ref b352), .val (.ref b_360), .val (.ref c_369), .val (.int (1 : Int32)), .val (.ref c_381), .val (.int (1 : Int32)), .unset, .unset, .unset, .unset, .unset, .unset] [(.ref b_360)])) rfl (by rw [hml]; rfl) (Steps.refl _) (argsL := []) (rest := []) (lenOf pd___Ljava_lang_String_ rfl) rfl (by show 2 * 0 + _ ≤ _; exact Nat.le_of_eq rfl) (hb hby at_210) (fun _ _ => ⟨rfl, eq387, (by decide : 13 + 0 ≤ _), (by decide : 46 + 0 ≤ _)⟩)
  dsimp only [Pt.U, Pt.locs, Pt.cells, Pt.slots] at X388 l388 y388 z388 st388 hQ388
  subst l388 y388 z388
  obtain ⟨rfl, N388q, eq388⟩ := hQ388
  have N388 := Fr.app N387 N388q
  have f392 := (((((f361.keep K360).wr W367).keep K369).wr W379).keep K381)
  obtain ⟨cq391, kq391, q391a, q391b, q391c⟩ := isOf hZ360 eq388 f392
  -- pc 219: java/lang/String.equals
  obtain ⟨_, _, ⟨T391, L391, k391, n391⟩, -, X391, ⟨Lc391, hQ391, l391, y391, z391⟩, st391⟩ := X388.virtualBack hx (y := y11) (z := y11) hw360 (mvT hZ360 (W 82 rfl)) (mvT hZ360 (W 83 rfl)) (notFace_of_selects (args := #[]) (mvT hZ360 (W 85 rfl))) (mvT hZ360 (W 85 rfl)) (mvT hZ360 (W 84 rfl)) (by decide) (backOf (W := 0) (rmeqs l Z a0 G1 hG [] b_350 T381.heap n0 Z386 O386) hZ360 (W 86 rfl) (W 6 rfl) (by decide) (by decide)) q391a q391c (g := (mkF m 219 #[.val (.int p0), .val (.int p1), .val (.int p2), .val (.int p3), .val (.ref b_350), .val (.int vm_), .val .null, .val (.int (2 : Int32)), .val (.ref b352), .val (.ref b_360), .val (.ref c_369), .val (.int (1 : Int32)), .val (.ref c_381), .val (.int (1 : Int32)), .val (.ref b_350), .unset, .unset, .unset, .unset, .unset] [(.ref b_350), (.ref b_350)])) rfl (by rw [hml]; rfl) (Steps.refl _) (argsL := [(.ref b_350)]) (rest := []) (lenOf pd__Ljava_lang_Object__Z rfl) rfl (by show 2 * 0 + _ ≤ _; exact Nat.le_of_eq rfl) (hb hby at_219) (fun _ _ => ⟨rfl, eq388, (by decide : 13 + 0 ≤ _), (by decide : 46 + 0 ≤ _)⟩)
  dsimp only [Pt.U, Pt.locs, Pt.cells, Pt.slots] at X391 l391 y391 z391 st391 hQ391
  subst l391 y391 z391
  obtain ⟨rfl, N391q, eq391⟩ := hQ391
  have N391 := Fr.app N388 N391q
  have f394 := ((((f360_6.other W367 (Or.inl (Ne.symm (Nat.ne_of_lt (Nat.lt_of_lt_of_le f362.lt lo_b_360))))).keep K369 nin0).other W379 (Or.inl (Nat.ne_of_lt (Nat.lt_of_lt_of_le f373.lt lo_c_369)))).keep K381 nin0)
  obtain ⟨cq393, kq393, q393a, q393b, q393c⟩ := isOf hZ360 eq391 f390
  -- pc 226: com/example/larkbridge/larkbridge/mcp/McpResourceContents.mimeType
  obtain ⟨_, _, ⟨T393, L393, k393, n393⟩, -, X393, ⟨Lc393, hQ393, l393, y393, z393⟩, st393⟩ := X391.virtualBack hx (y := y8) (z := y8) hw360 (mvT hZ360 (W 87 rfl)) (mvT hZ360 (W 88 rfl)) (notFace_of_selects (args := #[]) (mvT hZ360 (W 90 rfl))) (mvT hZ360 (W 90 rfl)) (mvT hZ360 (W 89 rfl)) (by decide) (backOf (W := 0) (rmG_McpResourceContents_mimeType l Z a0 G1 hG [] b_360 .null T381.heap n0 Z386 O386 f394 rfl) hZ360 (W 91 rfl) (W 36 rfl) (by decide) (by decide)) q393a q393c (g := (mkF m 226 #[.val (.int p0), .val (.int p1), .val (.int p2), .val (.int p3), .val (.ref b_350), .val (.int vm_), .val .null, .val (.int (2 : Int32)), .val (.ref b352), .val (.ref b_360), .val (.ref c_369), .val (.int (1 : Int32)), .val (.ref c_381), .val (.int (1 : Int32)), .val (.ref b_350), .val (.int (1 : Int32)), .unset, .unset, .unset, .unset] [(.ref b_360)])) rfl (by rw [hml]; rfl) (Steps.refl _) (argsL := []) (rest := []) (lenOf pd___Ljava_lang_String_ rfl) rfl (by show 2 * 0 + _ ≤ _; exact Nat.le_of_eq rfl) (hb hby at_226) (fun _ _ => ⟨rfl, eq391, (by decide : 13 + 0 ≤ _), (by decide : 46 + 0 ≤ _)⟩)
  dsimp only [Pt.U, Pt.locs, Pt.cells, Pt.slots] at X393 l393 y393 z393 st393 hQ393
  subst l393 y393 z393
  obtain ⟨rfl, N393q, eq393⟩ := hQ393
  have N393 := Fr.app N391 N393q
  have f396 := ((((f360_7.other W367 (Or.inl (Ne.symm (Nat.ne_of_lt (Nat.lt_of_lt_of_le f362.lt lo_b_360))))).keep K369 nin0).other W379 (Or.inl (Nat.ne_of_lt (Nat.lt_of_lt_of_le f373.lt lo_c_369)))).keep K381 nin0)
  obtain ⟨cq395, kq395, q395a, q395b, q395c⟩ := isOf hZ360 eq393 f390
  -- pc 260: com/example/larkbridge/larkbridge/mcp/McpResourceContents.isText
  obtain ⟨_, _, ⟨T395, L395, k395, n395⟩, -, X395, ⟨Lc395, hQ395, l395, y395, z395⟩, st395⟩ := X393.virtualBack hx (y := y9) (z := y9) hw360 (mvT hZ360 (W 92 rfl)) (mvT hZ360 (W 93 rfl)) (notFace_of_selects (args := #[]) (mvT hZ360 (W 95 rfl))) (mvT hZ360 (W 95 rfl)) (mvT hZ360 (W 94 rfl)) (by decide) (backOf (W := 0) (rmist l Z a0 G1 hG [] b_360 T381.heap n0 Z386 O386 f396) hZ360 (W 96 rfl) (W 36 rfl) (by decide) (by decide)) q395a q395c (g := (mkF m 260 #[.val (.int p0), .val (.int p1), .val (.int p2), .val (.int p3), .val (.ref b_350), .val (.int vm_), .val .null, .val (.int (2 : Int32)), .val (.ref b352), .val (.ref b_360), .val (.ref c_369), .val (.int (1 : Int32)), .val (.ref c_381), .val (.int (1 : Int32)), .val (.ref b_350), .val (.int (1 : Int32)), .val .null, .val (.int (1 : Int32)), .unset, .unset] [(.ref b_360)])) rfl (by rw [hml]; rfl) (Steps.refl _) (argsL := []) (rest := []) (lenOf pd___Z rfl) rfl (by show 2 * 0 + _ ≤ _; exact Nat.le_of_eq rfl) (hb hby at_260) (fun _ _ => ⟨rfl, eq393, (by decide : 13 + 0 ≤ _), (by decide : 46 + 0 ≤ _)⟩)
  dsimp only [Pt.U, Pt.locs, Pt.cells, Pt.slots] at X395 l395 y395 z395 st395 hQ395
  subst l395 y395 z395
  obtain ⟨rfl, N395q, eq395⟩ := hQ395
  have N395 := Fr.app N393 N395q
  obtain ⟨cq397, kq397, q397a, q397b, q397c⟩ := isOf hZ360 eq395 f390
  -- pc 275: com/example/larkbridge/larkbridge/mcp/McpResourceContents.text
  obtain ⟨_, _, ⟨T397, L397, k397, n397⟩, -, X397, ⟨Lc397, hQ397, l397, y397, z397⟩, st397⟩ := X395.virtualBack hx (y := y10) (z := y10) hw360 (mvT hZ360 (W 97 rfl)) (mvT hZ360 (W 98 rfl)) (notFace_of_selects (args := #[]) (mvT hZ360 (W 100 rfl))) (mvT hZ360 (W 100 rfl)) (mvT hZ360 (W 99 rfl)) (by decide) (backOf (W := 0) (rmtxt l Z a0 G1 hG [] b_360 T381.heap n0 Z386 O386 f396) hZ360 (W 101 rfl) (W 36 rfl) (by decide) (by decide)) q397a q397c (g := (mkF m 275 #[.val (.int p0), .val (.int p1), .val (.int p2), .val (.int p3), .val (.ref b_350), .val (.int vm_), .val .null, .val (.int (2 : Int32)), .val (.ref b352), .val (.ref b_360), .val (.ref c_369), .val (.int (1 : Int32)), .val (.ref c_381), .val (.int (1 : Int32)), .val (.ref b_350), .val (.int (1 : Int32)), .val .null, .val (.int (1 : Int32)), .val (.int (1 : Int32)), .unset] [(.ref b_360)])) rfl (by rw [hml]; rfl) (Steps.refl _) (argsL := []) (rest := []) (lenOf pd___Ljava_lang_String_ rfl) rfl (by show 2 * 0 + _ ≤ _; exact Nat.le_of_eq rfl) (hb hby at_275) (fun _ _ => ⟨rfl, eq395, (by decide : 13 + 0 ≤ _), (by decide : 46 + 0 ≤ _)⟩)
  dsimp only [Pt.U, Pt.locs, Pt.cells, Pt.slots] at X397 l397 y397 z397 st397 hQ397
  subst l397 y397 z397
  obtain ⟨rfl, N397q, eq397⟩ := hQ397
  have N397 := Fr.app N395 N397q
  obtain ⟨fs, hr, hrun, hended, hend⟩ := Jvm.Stand.leaveW (v := some (.int (1 : Int32))) X397 hSn360 (by rw [eq397]; exact hk386) (fun h => by rw [Bd.returns] at h; cases h)
  have hFin := R386.trans (CHv.at X397 hZ360 hEL R386.1)
  refine ⟨_, _, pre0 _ ?_, hrun, hended, _, _, rfl, ?_, ?_, own_mono hend (Nat.le_of_ble_eq_true rfl) (Nat.le_of_ble_eq_true rfl)⟩
  · show Steps p.tables e below (s₁.setTop (mkF m 0 #[.val (.int p0), .val (.int p1), .val (.int p2), .val (.int p3), .unset, .unset, .unset, .unset, .unset, .unset, .unset, .unset, .unset, .unset, .unset, .unset, .unset, .unset, .unset, .unset] [])) _
    refine XS.iloadN X0.here hx rfl (hb hby at_0) rfl ?_
    refine XS.iloadN X0.here hx rfl (hb hby at_1) rfl ?_
    refine XS.iconst X0.here hx rfl (hb hby at_2) ?_
    refine XS.iand X0.here hx rfl (hb hby at_3) rfl ?_
    refine st350.trans ?_
    show Steps p.tables e below (T350.setTop (mkF m 7 #[.val (.int p0), .val (.int p1), .val (.int p2), .val (.int p3), .unset, .unset, .unset, .unset, .unset, .unset, .unset, .unset, .unset, .unset, .unset, .unset, .unset, .unset, .unset, .unset] [(.ref b_350)])) _
    refine XS.astore X350.here hx rfl (hb hby at_7) rfl rfl (l' := #[.val (.int p0), .val (.int p1), .val (.int p2), .val (.int p3), .val (.ref b_350), .unset, .unset, .unset, .unset, .unset, .unset, .unset, .unset, .unset, .unset, .unset, .unset, .unset, .unset, .unset]) rfl ?_
    refine XS.iloadN X350.here hx rfl (hb hby at_9) rfl ?_
    refine XS.iconst X350.here hx rfl (hb hby at_10) ?_
    refine XS.iushr X350.here hx rfl (hb hby at_11) rfl ?_
    refine XS.bipush X350.here hx rfl (hb hby at_12) ?_
    refine XS.iand X350.here hx rfl (hb hby at_14) rfl ?_
    show Steps p.tables e below (T350.setTop (mkF m 15 #[.val (.int p0), .val (.int p1), .val (.int p2), .val (.int p3), .val (.ref b_350), .unset, .unset, .unset, .unset, .unset, .unset, .unset, .unset, .unset, .unset, .unset, .unset, .unset, .unset, .unset] [(.int (((p3.toUInt32 >>> ((2 : Int32) &&& 31).toUInt32).toInt32) &&& (7 : Int32)))])) _
    rw [← hvm]
    show Steps p.tables e below (T350.setTop (mkF m 15 #[.val (.int p0), .val (.int p1), .val (.int p2), .val (.int p3), .val (.ref b_350), .unset, .unset, .unset, .unset, .unset, .unset, .unset, .unset, .unset, .unset, .unset, .unset, .unset, .unset, .unset] [(.int vm_)])) _
    refine XS.istore X350.here hx rfl (hb hby at_15) rfl (l' := #[.val (.int p0), .val (.int p1), .val (.int p2), .val (.int p3), .val (.ref b_350), .val (.int vm_), .unset, .unset, .unset, .unset, .unset, .unset, .unset, .unset, .unset, .unset, .unset, .unset, .unset, .unset]) rfl ?_
    refine XS.iload X350.here hx rfl (hb hby at_17) rfl ?_
    refine XS.ifNo X350.here hx rfl (hb hby at_19) rfl ((if0 _ _).trans (teq ((by rw [hvm]; exact hm) : vm_ = (0 : Int32))).2) ?_
    refine XS.aconstNull X350.here hx rfl (hb hby at_22) ?_
    refine XS.goto X350.here hx rfl (pc0 := 23) (pc' := 34) rfl (hb hby at_23) (by decide) (by decide) ?_
    refine XS.astore X350.here hx rfl (hb hby at_34) rfl rfl (l' := #[.val (.int p0), .val (.int p1), .val (.int p2), .val (.int p3), .val (.ref b_350), .val (.int vm_), .val .null, .unset, .unset, .unset, .unset, .unset, .unset, .unset, .unset, .unset, .unset, .unset, .unset, .unset]) rfl ?_
    refine XS.iloadN X350.here hx rfl (hb hby at_36) rfl ?_
    refine XS.iconst X350.here hx rfl (hb hby at_37) ?_
    show Steps p.tables e below (T350.setTop (mkF m 38 #[.val (.int p0), .val (.int p1), .val (.int p2), .val (.int p3), .val (.ref b_350), .val (.int vm_), .val .null, .unset, .unset, .unset, .unset, .unset, .unset, .unset, .unset, .unset, .unset, .unset, .unset, .unset] [(.int (5 : Int32)), (.int p3)])) _
    refine XS.iushr X350.here hx rfl (hb hby at_38) rfl ?_
    refine XS.bipush X350.here hx rfl (hb hby at_39) ?_
    refine XS.iand X350.here hx rfl (hb hby at_41) rfl ?_
    refine XS.iconst X350.here hx rfl (hb hby at_42) ?_
    refine iremM (g := (mkF m 43 #[.val (.int p0), .val (.int p1), .val (.int p2), .val (.int p3), .val (.ref b_350), .val (.int vm_), .val .null, .unset, .unset, .unset, .unset, .unset, .unset, .unset, .unset, .unset, .unset, .unset, .unset, .unset] [(.int (5 : Int32)), (.int (((p3.toUInt32 >>> ((5 : Int32) &&& 31).toUInt32).toInt32) &&& (7 : Int32)))])) X350 hx rfl (hb hby at_43) rfl (by decide) ?_
    show Steps p.tables e below (T350.setTop (mkF m 44 #[.val (.int p0), .val (.int p1), .val (.int p2), .val (.int p3), .val (.ref b_350), .val (.int vm_), .val .null, .unset, .unset, .unset, .unset, .unset, .unset, .unset, .unset, .unset, .unset, .unset, .unset, .unset] [(.int ((((p3.toUInt32 >>> ((5 : Int32) &&& 31).toUInt32).toInt32) &&& (7 : Int32)) % (5 : Int32)))])) _
    rw [hn]
    show Steps p.tables e below (T350.setTop (mkF m 44 #[.val (.int p0), .val (.int p1), .val (.int p2), .val (.int p3), .val (.ref b_350), .val (.int vm_), .val .null, .unset, .unset, .unset, .unset, .unset, .unset, .unset, .unset, .unset, .unset, .unset, .unset, .unset] [(.int (2 : Int32))])) _
    refine XS.istore X350.here hx rfl (hb hby at_44) rfl (l' := #[.val (.int p0), .val (.int p1), .val (.int p2), .val (.int p3), .val (.ref b_350), .val (.int vm_), .val .null, .val (.int (2 : Int32)), .unset, .unset, .unset, .unset, .unset, .unset, .unset, .unset, .unset, .unset, .unset, .unset]) rfl ?_
    refine XS.iload X350.here hx rfl (hb hby at_46) rfl ?_
    refine st352 _ ?_
    show Steps p.tables e below (T352.setTop (mkF m 50 #[.val (.int p0), .val (.int p1), .val (.int p2), .val (.int p3), .val (.ref b_350), .val (.int vm_), .val .null, .val (.int (2 : Int32)), .unset, .unset, .unset, .unset, .unset, .unset, .unset, .unset, .unset, .unset, .unset, .unset] [(.ref b352)])) _
    refine XS.astore X352.here hx rfl (hb hby at_50) rfl rfl (l' := #[.val (.int p0), .val (.int p1), .val (.int p2), .val (.int p3), .val (.ref b_350), .val (.int vm_), .val .null, .val (.int (2 : Int32)), .val (.ref b352), .unset, .unset, .unset, .unset, .unset, .unset, .unset, .unset, .unset, .unset, .unset]) rfl ?_
    refine XS.iload X352.here hx rfl (hb hby at_52) rfl ?_
    refine XS.ifNo X352.here hx rfl (hb hby at_54) rfl ((if0 _ _).trans (tlt (by decide : (0 : Int32) < (2 : Int32))).2.2.2) ?_
    refine XS.aload X352.here hx rfl (hb hby at_57) rfl rfl ?_
    refine XS.iconst X352.here hx rfl (hb hby at_59) ?_
    refine XS.iloadN X352.here hx rfl (hb hby at_60) rfl ?_
    refine XS.i2b X352.here hx rfl (hb hby at_61) rfl ?_
    refine st355 _ ?_
    show Steps p.tables e below (T355.setTop (mkF m 63 #[.val (.int p0), .val (.int p1), .val (.int p2), .val (.int p3), .val (.ref b_350), .val (.int vm_), .val .null, .val (.int (2 : Int32)), .val (.ref b352), .unset, .unset, .unset, .unset, .unset, .unset, .unset, .unset, .unset, .unset, .unset] [])) _
    refine XS.iload X355.here hx rfl (hb hby at_63) rfl ?_
    refine XS.iconst X355.here hx rfl (hb hby at_65) ?_
    refine XS.icmpNo X355.here hx rfl (hb hby at_66) rfl (tlt (by decide : (1 : Int32) < (2 : Int32))).2.2.2 ?_
    refine XS.aload X355.here hx rfl (hb hby at_69) rfl rfl ?_
    refine XS.iconst X355.here hx rfl (hb hby at_71) ?_
    refine XS.iloadN X355.here hx rfl (hb hby at_72) rfl ?_
    refine XS.bipush X355.here hx rfl (hb hby at_73) ?_
    refine XS.iushr X355.here hx rfl (hb hby at_75) rfl ?_
    show Steps p.tables e below (T355.setTop (mkF m 76 #[.val (.int p0), .val (.int p1), .val (.int p2), .val (.int p3), .val (.ref b_350), .val (.int vm_), .val .null, .val (.int (2 : Int32)), .val (.ref b352), .unset, .unset, .unset, .unset, .unset, .unset, .unset, .unset, .unset, .unset, .unset] [(.int ((p2.toUInt32 >>> ((8 : Int32) &&& 31).toUInt32).toInt32)), (.int (1 : Int32)), (.ref b352)])) _
    refine XS.i2b X355.here hx rfl (hb hby at_76) rfl ?_
    refine st358 _ ?_
    show Steps p.tables e below (T358.setTop (mkF m 78 #[.val (.int p0), .val (.int p1), .val (.int p2), .val (.int p3), .val (.ref b_350), .val (.int vm_), .val .null, .val (.int (2 : Int32)), .val (.ref b352), .unset, .unset, .unset, .unset, .unset, .unset, .unset, .unset, .unset, .unset, .unset] [])) _
    refine XS.iload X358.here hx rfl (hb hby at_78) rfl ?_
    refine XS.iconst X358.here hx rfl (hb hby at_80) ?_
    refine XS.icmpYes X358.here hx rfl (pc0 := 81) (pc' := 93) rfl (hb hby at_81) rfl (flt (by decide : ¬ ((2 : Int32) < (2 : Int32)))).2.2.2 (by decide) (by decide) ?_
    refine XS.iload X358.here hx rfl (hb hby at_93) rfl ?_
    refine XS.iconst X358.here hx rfl (hb hby at_95) ?_
    refine XS.icmpYes X358.here hx rfl (pc0 := 96) (pc' := 108) rfl (hb hby at_96) rfl (flt (by decide : ¬ ((3 : Int32) < (2 : Int32)))).2.2.2 (by decide) (by decide) ?_
    refine XS.aload X358.here hx rfl (hb hby at_108) rfl rfl ?_
    refine XS.aload X358.here hx rfl (hb hby at_110) rfl rfl ?_
    show Steps p.tables e below (T358.setTop (mkF m 112 #[.val (.int p0), .val (.int p1), .val (.int p2), .val (.int p3), .val (.ref b_350), .val (.int vm_), .val .null, .val (.int (2 : Int32)), .val (.ref b352), .unset, .unset, .unset, .unset, .unset, .unset, .unset, .unset, .unset, .unset, .unset] [.null, (.ref b_350)])) _
    refine XS.aload X358.here hx rfl (hb hby at_112) rfl rfl ?_
    refine st360.trans ?_
    show Steps p.tables e below (T360.setTop (mkF m 117 #[.val (.int p0), .val (.int p1), .val (.int p2), .val (.int p3), .val (.ref b_350), .val (.int vm_), .val .null, .val (.int (2 : Int32)), .val (.ref b352), .unset, .unset, .unset, .unset, .unset, .unset, .unset, .unset, .unset, .unset, .unset] [(.ref b_360)])) _
    refine XS.astore X360.here hx rfl (hb hby at_117) rfl rfl (l' := #[.val (.int p0), .val (.int p1), .val (.int p2), .val (.int p3), .val (.ref b_350), .val (.int vm_), .val .null, .val (.int (2 : Int32)), .val (.ref b352), .val (.ref b_360), .unset, .unset, .unset, .unset, .unset, .unset, .unset, .unset, .unset, .unset]) rfl ?_
    refine XS.iload X360.here hx rfl (hb hby at_119) rfl ?_
    refine XS.ifNo X360.here hx rfl (hb hby at_121) rfl ((if0 _ _).trans (tlt (by decide : (0 : Int32) < (2 : Int32))).2.2.2) ?_
    refine XS.aload X360.here hx rfl (hb hby at_124) rfl rfl ?_
    refine XS.iconst X360.here hx rfl (hb hby at_126) ?_
    refine XS.aload X360.here hx rfl (hb hby at_127) rfl rfl ?_
    refine XS.iconst X360.here hx rfl (hb hby at_129) ?_
    refine X360.baloadBytes hx (j := (0 : Int32)) (v := (.int ((p2.toInt8.toInt32).toInt8.toInt32))) (own_cell rfl Arq365.1) (State.isArrayOf_alike hZ360.alike Arq365.2.1) Arq365.2.2 hinq365 hatq365 (g := (mkF m 130 #[.val (.int p0), .val (.int p1), .val (.int p2), .val (.int p3), .val (.ref b_350), .val (.int vm_), .val .null, .val (.int (2 : Int32)), .val (.ref b352), .val (.ref b_360), .unset, .unset, .unset, .unset, .unset, .unset, .unset, .unset, .unset, .unset] [(.int (0 : Int32)), (.ref b352), (.int (0 : Int32)), (.ref b352)])) rfl rfl (hb hby at_130) _ ?_
    show Steps p.tables e below (T360.setTop (mkF m 131 #[.val (.int p0), .val (.int p1), .val (.int p2), .val (.int p3), .val (.ref b_350), .val (.int vm_), .val .null, .val (.int (2 : Int32)), .val (.ref b352), .val (.ref b_360), .unset, .unset, .unset, .unset, .unset, .unset, .unset, .unset, .unset, .unset] [(.int ((p2.toInt8.toInt32).toInt8.toInt32)), (.int (0 : Int32)), (.ref b352)])) _
    refine XS.iconst X360.here hx rfl (hb hby at_131) ?_
    refine XS.ixor X360.here hx rfl (hb hby at_132) rfl ?_
    refine XS.i2b X360.here hx rfl (hb hby at_133) rfl ?_
    refine st367 _ ?_
    show Steps p.tables e below (T367.setTop (mkF m 135 #[.val (.int p0), .val (.int p1), .val (.int p2), .val (.int p3), .val (.ref b_350), .val (.int vm_), .val .null, .val (.int (2 : Int32)), .val (.ref b352), .val (.ref b_360), .unset, .unset, .unset, .unset, .unset, .unset, .unset, .unset, .unset, .unset] [])) _
    refine XS.iload X367.here hx rfl (hb hby at_135) rfl ?_
    refine XS.iconst X367.here hx rfl (hb hby at_137) ?_
    refine XS.icmpYes X367.here hx rfl (pc0 := 138) (pc' := 152) rfl (hb hby at_138) rfl (flt (by decide : ¬ ((3 : Int32) < (2 : Int32)))).2.2.2 (by decide) (by decide) ?_
    refine XS.aload X367.here hx rfl (hb hby at_152) rfl rfl ?_
    refine st369.trans ?_
    show Steps p.tables e below (T369.setTop (mkF m 157 #[.val (.int p0), .val (.int p1), .val (.int p2), .val (.int p3), .val (.ref b_350), .val (.int vm_), .val .null, .val (.int (2 : Int32)), .val (.ref b352), .val (.ref b_360), .unset, .unset, .unset, .unset, .unset, .unset, .unset, .unset, .unset, .unset] [(.ref c_369)])) _
    refine XS.astore X369.here hx rfl (hb hby at_157) rfl rfl (l' := #[.val (.int p0), .val (.int p1), .val (.int p2), .val (.int p3), .val (.ref b_350), .val (.int vm_), .val .null, .val (.int (2 : Int32)), .val (.ref b352), .val (.ref b_360), .val (.ref c_369), .unset, .unset, .unset, .unset, .unset, .unset, .unset, .unset, .unset]) rfl ?_
    refine XS.aload X369.here hx rfl (hb hby at_159) rfl rfl ?_
    refine XS.iload X369.here hx rfl (hb hby at_161) rfl ?_
    refine XS.iloadN X369.here hx rfl (hb hby at_163) rfl ?_
    refine st375 _ ?_
    show Steps p.tables e below (T375.setTop (mkF m 167 #[.val (.int p0), .val (.int p1), .val (.int p2), .val (.int p3), .val (.ref b_350), .val (.int vm_), .val .null, .val (.int (2 : Int32)), .val (.ref b352), .val (.ref b_360), .val (.ref c_369), .unset, .unset, .unset, .unset, .unset, .unset, .unset, .unset, .unset] [(.int (1 : Int32))])) _
    refine XS.istore X375.here hx rfl (hb hby at_167) rfl (l' := #[.val (.int p0), .val (.int p1), .val (.int p2), .val (.int p3), .val (.ref b_350), .val (.int vm_), .val .null, .val (.int (2 : Int32)), .val (.ref b352), .val (.ref b_360), .val (.ref c_369), .val (.int (1 : Int32)), .unset, .unset, .unset, .unset, .unset, .unset, .unset, .unset]) rfl ?_
    refine XS.aload X375.here hx rfl (hb hby at_169) rfl rfl ?_
    refine XS.ifnullNo X375.here hx rfl (hb hby at_171) rfl ?_
    refine XS.aload X375.here hx rfl (hb hby at_174) rfl rfl ?_
    refine X375.arraylength hx (own_cell eq375 Arq376.1) (State.isArrayOf_alike hZ360.alike Arq376.2.1) (g := (mkF m 176 #[.val (.int p0), .val (.int p1), .val (.int p2), .val (.int p3), .val (.ref b_350), .val (.int vm_), .val .null, .val (.int (2 : Int32)), .val (.ref b352), .val (.ref b_360), .val (.ref c_369), .val (.int (1 : Int32)), .unset, .unset, .unset, .unset, .unset, .unset, .unset, .unset] [(.ref c_369)])) rfl rfl (hb hby at_176) _ ?_
    rw [len_of Sq376 Nq376]
    refine XS.ifNo X375.here hx rfl (hb hby at_177) rfl ((if0 _ _).trans (tlt (by decide : (0 : Int32) < (2 : Int32))).2.2.2) ?_
    refine XS.aload X375.here hx rfl (hb hby at_180) rfl rfl ?_
    refine XS.iconst X375.here hx rfl (hb hby at_182) ?_
    show Steps p.tables e below (T375.setTop (mkF m 183 #[.val (.int p0), .val (.int p1), .val (.int p2), .val (.int p3), .val (.ref b_350), .val (.int vm_), .val .null, .val (.int (2 : Int32)), .val (.ref b352), .val (.ref b_360), .val (.ref c_369), .val (.int (1 : Int32)), .unset, .unset, .unset, .unset, .unset, .unset, .unset, .unset] [(.int (0 : Int32)), (.ref c_369)])) _
    refine XS.aload X375.here hx rfl (hb hby at_183) rfl rfl ?_
    refine XS.iconst X375.here hx rfl (hb hby at_185) ?_
    refine X375.baloadBytes hx (j := (0 : Int32)) (v := (.int ((p2.toInt8.toInt32).toInt8.toInt32))) (own_cell eq375 Arq377.1) (State.isArrayOf_alike hZ360.alike Arq377.2.1) Arq377.2.2 hinq377 hatq377 (g := (mkF m 186 #[.val (.int p0), .val (.int p1), .val (.int p2), .val (.int p3), .val (.ref b_350), .val (.int vm_), .val .null, .val (.int (2 : Int32)), .val (.ref b352), .val (.ref b_360), .val (.ref c_369), .val (.int (1 : Int32)), .unset, .unset, .unset, .unset, .unset, .unset, .unset, .unset] [(.int (0 : Int32)), (.ref c_369), (.int (0 : Int32)), (.ref c_369)])) rfl rfl (hb hby at_186) _ ?_
    refine XS.iconst X375.here hx rfl (hb hby at_187) ?_
    refine XS.ixor X375.here hx rfl (hb hby at_188) rfl ?_
    refine XS.i2b X375.here hx rfl (hb hby at_189) rfl ?_
    refine st379 _ ?_
    show Steps p.tables e below (T379.setTop (mkF m 191 #[.val (.int p0), .val (.int p1), .val (.int p2), .val (.int p3), .val (.ref b_350), .val (.int vm_), .val .null, .val (.int (2 : Int32)), .val (.ref b352), .val (.ref b_360), .val (.ref c_369), .val (.int (1 : Int32)), .unset, .unset, .unset, .unset, .unset, .unset, .unset, .unset] [])) _
    refine XS.aload X379.here hx rfl (hb hby at_191) rfl rfl ?_
    refine st381.trans ?_
    show Steps p.tables e below (T381.setTop (mkF m 196 #[.val (.int p0), .val (.int p1), .val (.int p2), .val (.int p3), .val (.ref b_350), .val (.int vm_), .val .null, .val (.int (2 : Int32)), .val (.ref b352), .val (.ref b_360), .val (.ref c_369), .val (.int (1 : Int32)), .unset, .unset, .unset, .unset, .unset, .unset, .unset, .unset] [(.ref c_381)])) _
    refine XS.astore X381.here hx rfl (hb hby at_196) rfl rfl (l' := #[.val (.int p0), .val (.int p1), .val (.int p2), .val (.int p3), .val (.ref b_350), .val (.int vm_), .val .null, .val (.int (2 : Int32)), .val (.ref b352), .val (.ref b_360), .val (.ref c_369), .val (.int (1 : Int32)), .val (.ref c_381), .unset, .unset, .unset, .unset, .unset, .unset, .unset]) rfl ?_
    refine XS.aload X381.here hx rfl (hb hby at_198) rfl rfl ?_
    refine XS.iload X381.here hx rfl (hb hby at_200) rfl ?_
    refine XS.iloadN X381.here hx rfl (hb hby at_202) rfl ?_
    refine st387 _ ?_
    show Steps p.tables e below (T387.setTop (mkF m 206 #[.val (.int p0), .val (.int p1), .val (.int p2), .val (.int p3), .val (.ref b_350), .val (.int vm_), .val .null, .val (.int (2 : Int32)), .val (.ref b352), .val (.ref b_360), .val (.ref c_369), .val (.int (1 : Int32)), .val (.ref c_381), .unset, .unset, .unset, .unset, .unset, .unset, .unset] [(.int (1 : Int32))])) _
    refine XS.istore X387.here hx rfl (hb hby at_206) rfl (l' := #[.val (.int p0), .val (.int p1), .val (.int p2), .val (.int p3), .val (.ref b_350), .val (.int vm_), .val .null, .val (.int (2 : Int32)), .val (.ref b352), .val (.ref b_360), .val (.ref c_369), .val (.int (1 : Int32)), .val (.ref c_381), .val (.int (1 : Int32)), .unset, .unset, .unset, .unset, .unset, .unset]) rfl ?_
    refine XS.aload X387.here hx rfl (hb hby at_208) rfl rfl ?_
    refine st388.trans ?_
    show Steps p.tables e below (T388.setTop (mkF m 213 #[.val (.int p0), .val (.int p1), .val (.int p2), .val (.int p3), .val (.ref b_350), .val (.int vm_), .val .null, .val (.int (2 : Int32)), .val (.ref b352), .val (.ref b_360), .val (.ref c_369), .val (.int (1 : Int32)), .val (.ref c_381), .val (.int (1 : Int32)), .unset, .unset, .unset, .unset, .unset, .unset] [(.ref b_350)])) _
    refine XS.astore X388.here hx rfl (hb hby at_213) rfl rfl (l' := #[.val (.int p0), .val (.int p1), .val (.int p2), .val (.int p3), .val (.ref b_350), .val (.int vm_), .val .null, .val (.int (2 : Int32)), .val (.ref b352), .val (.ref b_360), .val (.ref c_369), .val (.int (1 : Int32)), .val (.ref c_381), .val (.int (1 : Int32)), .val (.ref b_350), .unset, .unset, .unset, .unset, .unset]) rfl ?_
    refine XS.aload X388.here hx rfl (hb hby at_215) rfl rfl ?_
    refine XS.aload X388.here hx rfl (hb hby at_217) rfl rfl ?_
    refine st391.trans ?_
    show Steps p.tables e below (T391.setTop (mkF m 222 #[.val (.int p0), .val (.int p1), .val (.int p2), .val (.int p3), .val (.ref b_350), .val (.int vm_), .val .null, .val (.int (2 : Int32)), .val (.ref b352), .val (.ref b_360), .val (.ref c_369), .val (.int (1 : Int32)), .val (.ref c_381), .val (.int (1 : Int32)), .val (.ref b_350), .unset, .unset, .unset, .unset, .unset] [(.int (1 : Int32))])) _
    refine XS.istore X391.here hx rfl (hb hby at_222) rfl (l' := #[.val (.int p0), .val (.int p1), .val (.int p2), .val (.int p3), .val (.ref b_350), .val (.int vm_), .val .null, .val (.int (2 : Int32)), .val (.ref b352), .val (.ref b_360), .val (.ref c_369), .val (.int (1 : Int32)), .val (.ref c_381), .val (.int (1 : Int32)), .val (.ref b_350), .val (.int (1 : Int32)), .unset, .unset, .unset, .unset]) rfl ?_
    refine XS.aload X391.here hx rfl (hb hby at_224) rfl rfl ?_
    refine st393.trans ?_
    show Steps p.tables e below (T393.setTop (mkF m 229 #[.val (.int p0), .val (.int p1), .val (.int p2), .val (.int p3), .val (.ref b_350), .val (.int vm_), .val .null, .val (.int (2 : Int32)), .val (.ref b352), .val (.ref b_360), .val (.ref c_369), .val (.int (1 : Int32)), .val (.ref c_381), .val (.int (1 : Int32)), .val (.ref b_350), .val (.int (1 : Int32)), .unset, .unset, .unset, .unset] [.null])) _
    refine XS.astore X393.here hx rfl (hb hby at_229) rfl rfl (l' := #[.val (.int p0), .val (.int p1), .val (.int p2), .val (.int p3), .val (.ref b_350), .val (.int vm_), .val .null, .val (.int (2 : Int32)), .val (.ref b352), .val (.ref b_360), .val (.ref c_369), .val (.int (1 : Int32)), .val (.ref c_381), .val (.int (1 : Int32)), .val (.ref b_350), .val (.int (1 : Int32)), .val .null, .unset, .unset, .unset]) rfl ?_
    refine XS.aload X393.here hx rfl (hb hby at_231) rfl rfl ?_
    refine XS.ifnonnullNo X393.here hx rfl (hb hby at_233) rfl ?_
    refine XS.aload X393.here hx rfl (hb hby at_236) rfl rfl ?_
    refine XS.ifnonnullNo X393.here hx rfl (hb hby at_238) rfl ?_
    refine XS.iconst X393.here hx rfl (hb hby at_241) ?_
    refine XS.goto X393.here hx rfl (pc0 := 242) (pc' := 256) rfl (hb hby at_242) (by decide) (by decide) ?_
    refine XS.istore X393.here hx rfl (hb hby at_256) rfl (l' := #[.val (.int p0), .val (.int p1), .val (.int p2), .val (.int p3), .val (.ref b_350), .val (.int vm_), .val .null, .val (.int (2 : Int32)), .val (.ref b352), .val (.ref b_360), .val (.ref c_369), .val (.int (1 : Int32)), .val (.ref c_381), .val (.int (1 : Int32)), .val (.ref b_350), .val (.int (1 : Int32)), .val .null, .val (.int (1 : Int32)), .unset, .unset]) rfl ?_
    show Steps p.tables e below (T393.setTop (mkF m 258 #[.val (.int p0), .val (.int p1), .val (.int p2), .val (.int p3), .val (.ref b_350), .val (.int vm_), .val .null, .val (.int (2 : Int32)), .val (.ref b352), .val (.ref b_360), .val (.ref c_369), .val (.int (1 : Int32)), .val (.ref c_381), .val (.int (1 : Int32)), .val (.ref b_350), .val (.int (1 : Int32)), .val .null, .val (.int (1 : Int32)), .unset, .unset] [])) _
    refine XS.aload X393.here hx rfl (hb hby at_258) rfl rfl ?_
    refine st395.trans ?_
    show Steps p.tables e below (T395.setTop (mkF m 263 #[.val (.int p0), .val (.int p1), .val (.int p2), .val (.int p3), .val (.ref b_350), .val (.int vm_), .val .null, .val (.int (2 : Int32)), .val (.ref b352), .val (.ref b_360), .val (.ref c_369), .val (.int (1 : Int32)), .val (.ref c_381), .val (.int (1 : Int32)), .val (.ref b_350), .val (.int (1 : Int32)), .val .null, .val (.int (1 : Int32)), .unset, .unset] [(.int (0 : Int32))])) _
    refine XS.ifNo X395.here hx rfl (hb hby at_263) rfl ((if0 _ _).trans (teq (by decide : (0 : Int32) = (0 : Int32))).2) ?_
    refine XS.iconst X395.here hx rfl (hb hby at_266) ?_
    refine XS.goto X395.here hx rfl (pc0 := 267) (pc' := 271) rfl (hb hby at_267) (by decide) (by decide) ?_
    refine XS.istore X395.here hx rfl (hb hby at_271) rfl (l' := #[.val (.int p0), .val (.int p1), .val (.int p2), .val (.int p3), .val (.ref b_350), .val (.int vm_), .val .null, .val (.int (2 : Int32)), .val (.ref b352), .val (.ref b_360), .val (.ref c_369), .val (.int (1 : Int32)), .val (.ref c_381), .val (.int (1 : Int32)), .val (.ref b_350), .val (.int (1 : Int32)), .val .null, .val (.int (1 : Int32)), .val (.int (1 : Int32)), .unset]) rfl ?_
    refine XS.aload X395.here hx rfl (hb hby at_273) rfl rfl ?_
    refine st397.trans ?_
    show Steps p.tables e below (T397.setTop (mkF m 278 #[.val (.int p0), .val (.int p1), .val (.int p2), .val (.int p3), .val (.ref b_350), .val (.int vm_), .val .null, .val (.int (2 : Int32)), .val (.ref b352), .val (.ref b_360), .val (.ref c_369), .val (.int (1 : Int32)), .val (.ref c_381), .val (.int (1 : Int32)), .val (.ref b_350), .val (.int (1 : Int32)), .val .null, .val (.int (1 : Int32)), .val (.int (1 : Int32)), .unset] [.null])) _
    refine XS.ifnonnullNo X397.here hx rfl (hb hby at_278) rfl ?_
    refine XS.iconst X397.here hx rfl (hb hby at_281) ?_
    refine XS.goto X397.here hx rfl (pc0 := 282) (pc' := 286) rfl (hb hby at_282) (by decide) (by decide) ?_
    refine XS.istore X397.here hx rfl (hb hby at_286) rfl (l' := #[.val (.int p0), .val (.int p1), .val (.int p2), .val (.int p3), .val (.ref b_350), .val (.int vm_), .val .null, .val (.int (2 : Int32)), .val (.ref b352), .val (.ref b_360), .val (.ref c_369), .val (.int (1 : Int32)), .val (.ref c_381), .val (.int (1 : Int32)), .val (.ref b_350), .val (.int (1 : Int32)), .val .null, .val (.int (1 : Int32)), .val (.int (1 : Int32)), .val (.int (1 : Int32))]) rfl ?_
    refine XS.iload X397.here hx rfl (hb hby at_288) rfl ?_
    refine XS.ifNo X397.here hx rfl (hb hby at_290) rfl ((if0 _ _).trans (feq (by decide : ¬ ((1 : Int32) = (0 : Int32)))).1) ?_
    refine XS.iload X397.here hx rfl (hb hby at_293) rfl ?_
    refine XS.ifNo X397.here hx rfl (hb hby at_295) rfl ((if0 _ _).trans (feq (by decide : ¬ ((1 : Int32) = (0 : Int32)))).1) ?_
    show Steps p.tables e below (T397.setTop (mkF m 298 #[.val (.int p0), .val (.int p1), .val (.int p2), .val (.int p3), .val (.ref b_350), .val (.int vm_), .val .null, .val (.int (2 : Int32)), .val (.ref b352), .val (.ref b_360), .val (.ref c_369), .val (.int (1 : Int32)), .val (.ref c_381), .val (.int (1 : Int32)), .val (.ref b_350), .val (.int (1 : Int32)), .val .null, .val (.int (1 : Int32)), .val (.int (1 : Int32)), .val (.int (1 : Int32))] [])) _
    refine XS.iload X397.here hx rfl (hb hby at_298) rfl ?_
    refine XS.ifNo X397.here hx rfl (hb hby at_300) rfl ((if0 _ _).trans (feq (by decide : ¬ ((1 : Int32) = (0 : Int32)))).1) ?_
    refine XS.iload X397.here hx rfl (hb hby at_303) rfl ?_
    refine XS.ifNo X397.here hx rfl (hb hby at_305) rfl ((if0 _ _).trans (feq (by decide : ¬ ((1 : Int32) = (0 : Int32)))).1) ?_
    refine XS.iload X397.here hx rfl (hb hby at_308) rfl ?_
    refine XS.ifNo X397.here hx rfl (hb hby at_310) rfl ((if0 _ _).trans (feq (by decide : ¬ ((1 : Int32) = (0 : Int32)))).1) ?_
    refine XS.iload X397.here hx rfl (hb hby at_313) rfl ?_
    refine XS.ifNo X397.here hx rfl (hb hby at_315) rfl ((if0 _ _).trans (feq (by decide : ¬ ((1 : Int32) = (0 : Int32)))).1) ?_
    show Steps p.tables e below (T397.setTop (mkF m 318 #[.val (.int p0), .val (.int p1), .val (.int p2), .val (.int p3), .val (.ref b_350), .val (.int vm_), .val .null, .val (.int (2 : Int32)), .val (.ref b352), .val (.ref b_360), .val (.ref c_369), .val (.int (1 : Int32)), .val (.ref c_381), .val (.int (1 : Int32)), .val (.ref b_350), .val (.int (1 : Int32)), .val .null, .val (.int (1 : Int32)), .val (.int (1 : Int32)), .val (.int (1 : Int32))] [])) _
    refine XS.iconst X397.here hx rfl (hb hby at_318) ?_
    refine XS.goto X397.here hx rfl (pc0 := 319) (pc' := 323) rfl (hb hby at_319) (by decide) (by decide) ?_
    exact retN X397 hx (t := .boolean) Bd.returns (by simp) (hb hby at_323) hr
  · show Q0 Z G1 p0 p1 p2 p3 h0 n0 _ T397.heap _
    rw [eq397]
    exact ⟨rfl, N397, K0_386⟩
  · show CHr Z own_EL s.vm s.heap T397.vm T397.heap
    rw [hh, eq397]
    exact hFin
set_option maxRecDepth 65536 in
set_option maxHeartbeats 40000000 in
theorem rm0_3t (l : Launch) (Z : State) (a0 : Array Value) (G1 : Int32) (hG : Glob Z a0 G1) (ws : List Jvm.Cond) (p0 : Int32) (p1 : Int32) (p2 : Int32) (p3 : Int32) (h0 : Heap) (n0 : Nat) (Z0 : n0 ≤ h0.size) (X00 : Old Z n0 h0) (hn : ((((p3.toUInt32 >>> ((5 : Int32) &&& 31).toUInt32).toInt32) &&& (7 : Int32)) % (5 : Int32)) = (3 : Int32)) (hm : ¬ ((((p3.toUInt32 >>> ((2 : Int32) &&& 31).toUInt32).toInt32) &&& (7 : Int32)) = (0 : Int32))) :
    MetFree l x (head1 (Jvm.Cond.code x code maxLocals ret :: ws) room_1) (fun a U => a = #[(.int p0), (.int p1), (.int p2), (.int p3)] ∧ Z.Warmed39 U.vm ∧ U.heap = h0 ∧ CHv Z own_EL U.vm h0) (fun _ _ _ _ _ => True) (fun _ U o U' => ∃ v L, o = .returned v ∧ Q0 Z G1 p0 p1 p2 p3 h0 n0 v U'.heap L ∧ CHr Z own_EL U.vm U.heap U'.vm U'.heap ∧ ReturnedEndW U o U' L room_1.cells room_1.slots) := by
  obtain ⟨hw, O_cs, P_cs⟩ := id hG
  have W : ∀ (i : Nat) {d : Jvm.Cond}, tables_1[i]? = some d → d.before a0 Z = true := fun i d h => hw d (List.mem_of_getElem? h)
  refine MetFree.of_bodySF (plainFor_of_name pn_com_example_larkbridge_larkbridge_mcp_McpResourceContentsBinaryPinLaw) hisR ?_
  intro p e s m args below meth c s₁ Bd hml0 hP hK
  obtain ⟨rfl, hZ, hh, hCH⟩ := hP
  have hx := Bd.exec
  have hby := Bd.bytes
  have hml : c.maxLocals = 20 := hml0
  have hown : s.vm.findClass "com/example/larkbridge/larkbridge/mcp/McpResourceContentsBinaryPinLaw" = some m.cls := findClass_of_methodNamed Bd.named
  have hnm := (name_of_methodNamed Bd.named Bd.method).1
  have X0 : Stand p l e room_1 (s.setVm s.vm) m #[(.int p0), (.int p1), (.int p2), (.int p3)] below meth c s₁ [] 0 0 := Stand.of_body Bd
  have e0 : s₁.heap = h0 := by rw [← hh, Bd.state]; rfl
  have hS0 : s.Since s.vm h0.size := (State.WarmedH.refl s).since _
  have hk0 : h0.size ≤ h0.size := Nat.le_refl _
  have R0 : CHr Z own_EL s.vm h0 s.vm h0 := CHr.refl hCH
  have hEL := own_ew hw
  have N0 := Fr.nil n0
  have pre0 : ∀ t, Steps p.tables e below (s₁.setTop (mkF m 0 #[.val (.int p0), .val (.int p1), .val (.int p2), .val (.int p3), .unset, .unset, .unset, .unset, .unset, .unset, .unset, .unset, .unset, .unset, .unset, .unset, .unset, .unset, .unset, .unset] [])) t → Steps p.tables e below (s₁.setTop (entryFrame m #[(.int p0), (.int p1), (.int p2), (.int p3)] maxLocals)) t := fun t kk_ => castTop (ef_code_IIII m p0 p1 p2 p3) kk_
  -- pc 4: com/example/larkbridge/larkbridge/mcp/McpResourceContentsBinaryPinLaw.str
  obtain ⟨_, _, ⟨T398, L398, k398, n398⟩, -, X398, hS398, hG398, ⟨Lc398, hQ398, l398, y398, z398, hC398⟩, st398⟩ := callSS X0 hx (y := y3) hown (mvT hZ (W 0 rfl)) (mvT hZ (W 1 rfl)) (mvT hZ (W 2 rfl)) (mvT hZ (W 3 rfl)) (by decide) (backOfSH (s := s) (W := 0) (rmstr l Z a0 G1 hG [] p0 (p3 &&& (3 : Int32)) h0 n0 Z0 X00) hZ (W 3 rfl) (W 2 rfl) (by decide) (by decide) hEL R0.1) (g := (mkF m 4 #[.val (.int p0), .val (.int p1), .val (.int p2), .val (.int p3), .unset, .unset, .unset, .unset, .unset, .unset, .unset, .unset, .unset, .unset, .unset, .unset, .unset, .unset, .unset, .unset] [(.int (p3 &&& (3 : Int32))), (.int p0)])) rfl (by rw [hml]; rfl) (argsL := [(.int p0), (.int (p3 &&& (3 : Int32)))]) (rest := []) (lenOf pd__II_Ljava_lang_String_ rfl) rfl (by show 2 * 0 + _ ≤ _; exact Nat.le_of_eq rfl) (hb hby at_4) (fun _ _ => ⟨rfl, e0, (by decide : 0 + 6 ≤ _), (by decide : 0 + 12 ≤ _)⟩)
  dsimp only [Pt.U, Pt.locs, Pt.cells, Pt.slots] at X398 l398 y398 z398 st398 hQ398 hS398 hG398 hC398
  subst l398 y398 z398
  have hZ398 : Z.Warmed39 T398.vm := State.Warmed39.trans (t := s.setVm s.vm) hZ hS398.1
  have hw398 : T398.vm.findClass "com/example/larkbridge/larkbridge/mcp/McpResourceContentsBinaryPinLaw" = some m.cls := by rw [hS398.1.alike.findClass]; exact hown
  have hSn398 : s.Since T398.vm T398.heap.size := hS0.trans hS398 (Nat.le_trans hk0 (by have q := hG398; rw [e0] at q; exact q))
  have X398 : Stand p l e _ (s.setVm T398.vm) m _ below meth c T398 _ _ _ := X398
  obtain ⟨b_398, rfl, N398q, K398, f398_0, f398_1⟩ := hQ398
  have N398 := Fr.app N0 N398q
  have Z399 : n0 ≤ T398.heap.size := Nat.le_trans Z0 K398.1
  have K0_399 : Keep h0 T398.heap [] := (Keep.refl h0 []).trans K398 all0
  have O399 : Old Z n0 T398.heap := X00.keep K398 all0
  have hkw398 : T398.heap.size ≤ T398.heap.size := Nat.le_refl _
  have Rb398 : CHr Z own_EL s.vm h0 T398.vm T398.heap := R0.trans hC398
  have lo_b_398 : h0.size ≤ b_398 := f398_0
  have g_b_398 : n0 ≤ b_398 := Nat.le_trans Z0 lo_b_398
  have l0_b_398 : h0.size ≤ b_398 := Nat.le_trans (Keep.refl h0 []).1 lo_b_398
  obtain ⟨vm_, hvm⟩ : ∃ z : Int32, z = (((p3.toUInt32 >>> ((2 : Int32) &&& 31).toUInt32).toInt32) &&& (7 : Int32)) := ⟨_, rfl⟩
  -- pc 31: com/example/larkbridge/larkbridge/mcp/McpResourceContentsBinaryPinLaw.str
  obtain ⟨_, _, ⟨T400, L400, k400, n400⟩, -, X400, hS400, hG400, ⟨Lc400, hQ400, l400, y400, z400, hC400⟩, st400⟩ := callSS X398 hx (y := y3) hw398 (mvT hZ398 (W 0 rfl)) (mvT hZ398 (W 1 rfl)) (mvT hZ398 (W 2 rfl)) (mvT hZ398 (W 3 rfl)) (by decide) (backOfSH (s := s) (W := 0) (rmstr l Z a0 G1 hG [] p1 (vm_ &&& (3 : Int32)) T398.heap n0 Z399 O399) hZ398 (W 3 rfl) (W 2 rfl) (by decide) (by decide) hEL Rb398.1) (g := (mkF m 31 #[.val (.int p0), .val (.int p1), .val (.int p2), .val (.int p3), .val (.ref b_398), .val (.int vm_), .unset, .unset, .unset, .unset, .unset, .unset, .unset, .unset, .unset, .unset, .unset, .unset, .unset, .unset] [(.int (vm_ &&& (3 : Int32))), (.int p1)])) rfl (by rw [hml]; rfl) (argsL := [(.int p1), (.int (vm_ &&& (3 : Int32)))]) (rest := []) (lenOf pd__II_Ljava_lang_String_ rfl) rfl (by show 2 * 0 + _ ≤ _; exact Nat.le_of_eq rfl) (hb hby at_31) (fun _ _ => ⟨rfl, rfl, (by decide : 6 + 6 ≤ _), (by decide : 12 + 12 ≤ _)⟩)
  dsimp only [Pt.U, Pt.locs, Pt.cells, Pt.slots] at X400 l400 y400 z400 st400 hQ400 hS400 hG400 hC400
  subst l400 y400 z400
  have hZ400 : Z.Warmed39 T400.vm := State.Warmed39.trans (t := s.setVm T398.vm) hZ398 hS400.1
  have hw400 : T400.vm.findClass "com/example/larkbridge/larkbridge/mcp/McpResourceContentsBinaryPinLaw" = some m.cls := by rw [hS400.1.alike.findClass]; exact hw398
  have hSn400 : s.Since T400.vm T400.heap.size := hSn398.trans hS400 (Nat.le_trans hkw398 (hG400))
  have X400 : Stand p l e _ (s.setVm T400.vm) m _ below meth c T400 _ _ _ := X400
  obtain ⟨b_400, rfl, N400q, K400, f400_0, f400_1⟩ := hQ400
  have N400 := Fr.app N398 N400q
  have Z401 : n0 ≤ T400.heap.size := Nat.le_trans Z399 K400.1
  have K0_401 : Keep h0 T400.heap [] := K0_399.trans K400 all0
  have O401 : Old Z n0 T400.heap := O399.keep K400 all0
  have hkw400 : T400.heap.size ≤ T400.heap.size := Nat.le_refl _
  have Rb400 : CHr Z own_EL s.vm h0 T400.vm T400.heap := Rb398.trans hC400
  have lo_b_400 : T398.heap.size ≤ b_400 := f400_0
  have g_b_400 : n0 ≤ b_400 := Nat.le_trans Z399 lo_b_400
  have l0_b_400 : h0.size ≤ b_400 := Nat.le_trans K0_399.1 lo_b_400
  obtain ⟨T402, h402, k402, X402, e402, E402, A402, Q402, st402⟩ := newPE X400 hx hZ400 (W 23 rfl) rfl (g := (mkF m 48 #[.val (.int p0), .val (.int p1), .val (.int p2), .val (.int p3), .val (.ref b_398), .val (.int vm_), .val (.ref b_400), .val (.int (3 : Int32)), .unset, .unset, .unset, .unset, .unset, .unset, .unset, .unset, .unset, .unset, .unset, .unset] [(.int (3 : Int32))])) rfl (hb hby at_48) rfl (by decide) (cap := 3) (by decide) (by decide) (by decide) (by decide) (ad := "[B") rfl
  obtain ⟨b402, g402⟩ : ∃ z, z = T400.heap.size := ⟨_, rfl⟩
  rw [← g402] at A402 Q402 st402
  have Z403 : n0 ≤ h402.size := Nat.le_trans Z401 E402.1
  have K0_403 : Keep h0 h402 [] := K0_401.ext E402
  have O403 : Old Z n0 h402 := O401.ext E402
  have R403 : CHr Z own_EL s.vm h0 T400.vm h402 := Rb400.trans (CHr.ext E402 Rb400.1)
  have hk403 : T400.heap.size ≤ h402.size := Nat.le_trans hkw400 E402.1
  have lo_b402 : T400.heap.size ≤ b402 := Nat.le_of_eq g402.symm
  have g_b402 : n0 ≤ b402 := Nat.le_trans Z401 lo_b402
  have l0_b402 : h0.size ≤ b402 := Nat.le_trans K0_401.1 lo_b402
  have sfb402 : Safe Z own_EL T400.vm h402 b402 := Safe.ext E402 Rb400.1 (Safe.new lo_b402)
  have V_b402 : Arv Z h402 b402 k402 .byte (3 : Int32) [(.int (0 : Int32)), (.int (0 : Int32)), (.int (0 : Int32))] (.int (0 : Int32)) := (Arv.new A402 (by decide)).pad (pad_rep [] (.int (0 : Int32)) 3)
  obtain ⟨clq404, Arq404, qaq404, Sq404, Nq404, Hq404, Gq404⟩ := id V_b402
  have hinq404 : ¬ ((0 : Int32) < 0 ∨ clq404.slots.size ≤ ((0 : Int32)).toNatClampNeg) := inb_of Sq404 ⟨by decide, by decide⟩
  obtain ⟨T405, h405, X405, e405, W405, st405⟩ := stB X402 hx hZ400 e402 Arq404 (j := (0 : Int32)) hinq404 (g := (mkF m 62 #[.val (.int p0), .val (.int p1), .val (.int p2), .val (.int p3), .val (.ref b_398), .val (.int vm_), .val (.ref b_400), .val (.int (3 : Int32)), .val (.ref b402), .unset, .unset, .unset, .unset, .unset, .unset, .unset, .unset, .unset, .unset, .unset] [(.int (p2.toInt8.toInt32)), (.int (0 : Int32)), (.ref b402)])) rfl rfl (hb hby at_62)
  have V405 : Arv Z h405 b402 k402 .byte (3 : Int32) [(.int ((p2.toInt8.toInt32).toInt8.toInt32)), (.int (0 : Int32)), (.int (0 : Int32))] (.int (0 : Int32)) := Arv.set Arq404 qaq404 Sq404 Nq404 Hq404 Gq404 (fits_nar_byte _) W405 0 rfl (Nat.le_of_ble_eq_true rfl)
  have Z406 : n0 ≤ h405.size := Nat.le_trans Z403 (Keep.of_wr W405).1
  have K0_406 : Keep h0 h405 [] := K0_403.wr W405 (Or.inr l0_b402)
  have O406 : Old Z n0 h405 := O403.wr W405 g_b402
  have R406 : CHr Z own_EL s.vm h0 T400.vm h405 := R403.trans (CHr.wr W405 sfb402 R403.1)
  have hk406 : T400.heap.size ≤ h405.size := Nat.le_trans hk403 (Keep.of_wr W405).1
  have sf406_b402 : Safe Z own_EL T400.vm h405 b402 := Safe.wr W405 sfb402 R403.1 sfb402
  have N405 := Fr.snoc X405 N400 g_b402
  obtain ⟨clq407, Arq407, qaq407, Sq407, Nq407, Hq407, Gq407⟩ := id V405
  have hinq407 : ¬ ((1 : Int32) < 0 ∨ clq407.slots.size ≤ ((1 : Int32)).toNatClampNeg) := inb_of Sq407 ⟨by decide, by decide⟩
  obtain ⟨T408, h408, X408, e408, W408, st408⟩ := stB X405 hx hZ400 e405 Arq407 (j := (1 : Int32)) hinq407 (g := (mkF m 77 #[.val (.int p0), .val (.int p1), .val (.int p2), .val (.int p3), .val (.ref b_398), .val (.int vm_), .val (.ref b_400), .val (.int (3 : Int32)), .val (.ref b402), .unset, .unset, .unset, .unset, .unset, .unset, .unset, .unset, .unset, .unset, .unset] [(.int (((p2.toUInt32 >>> ((8 : Int32) &&& 31).toUInt32).toInt32).toInt8.toInt32)), (.int (1 : Int32)), (.ref b402)])) rfl rfl (hb hby at_77)
  have V408 : Arv Z h408 b402 k402 .byte (3 : Int32) [(.int ((p2.toInt8.toInt32).toInt8.toInt32)), (.int ((((p2.toUInt32 >>> ((8 : Int32) &&& 31).toUInt32).toInt32).toInt8.toInt32).toInt8.toInt32)), (.int (0 : Int32))] (.int (0 : Int32)) := Arv.set Arq407 qaq407 Sq407 Nq407 Hq407 Gq407 (fits_nar_byte _) W408 1 rfl (Nat.le_of_ble_eq_true rfl)
  have Z409 : n0 ≤ h408.size := Nat.le_trans Z406 (Keep.of_wr W408).1
  have K0_409 : Keep h0 h408 [] := K0_406.wr W408 (Or.inr l0_b402)
  have O409 : Old Z n0 h408 := O406.wr W408 g_b402
  have R409 : CHr Z own_EL s.vm h0 T400.vm h408 := R406.trans (CHr.wr W408 sf406_b402 R406.1)
  have hk409 : T400.heap.size ≤ h408.size := Nat.le_trans hk406 (Keep.of_wr W408).1
  have sf409_b402 : Safe Z own_EL T400.vm h408 b402 := Safe.wr W408 sf406_b402 R406.1 sf406_b402
  have N408 := Fr.snoc X408 N405 g_b402
  obtain ⟨clq410, Arq410, qaq410, Sq410, Nq410, Hq410, Gq410⟩ := id V408
  have hinq410 : ¬ ((2 : Int32) < 0 ∨ clq410.slots.size ≤ ((2 : Int32)).toNatClampNeg) := inb_of Sq410 ⟨by decide, by decide⟩
  obtain ⟨T411, h411, X411, e411, W411, st411⟩ := stB X408 hx hZ400 e408 Arq410 (j := (2 : Int32)) hinq410 (g := (mkF m 92 #[.val (.int p0), .val (.int p1), .val (.int p2), .val (.int p3), .val (.ref b_398), .val (.int vm_), .val (.ref b_400), .val (.int (3 : Int32)), .val (.ref b402), .unset, .unset, .unset, .unset, .unset, .unset, .unset, .unset, .unset, .unset, .unset] [(.int (((p2.toUInt32 >>> ((16 : Int32) &&& 31).toUInt32).toInt32).toInt8.toInt32)), (.int (2 : Int32)), (.ref b402)])) rfl rfl (hb hby at_92)
  have V411 : Arv Z h411 b402 k402 .byte (3 : Int32) [(.int ((p2.toInt8.toInt32).toInt8.toInt32)), (.int ((((p2.toUInt32 >>> ((8 : Int32) &&& 31).toUInt32).toInt32).toInt8.toInt32).toInt8.toInt32)), (.int ((((p2.toUInt32 >>> ((16 : Int32) &&& 31).toUInt32).toInt32).toInt8.toInt32).toInt8.toInt32))] (.int (0 : Int32)) := Arv.set Arq410 qaq410 Sq410 Nq410 Hq410 Gq410 (fits_nar_byte _) W411 2 rfl (Nat.le_of_ble_eq_true rfl)
  have Z412 : n0 ≤ h411.size := Nat.le_trans Z409 (Keep.of_wr W411).1
  have K0_412 : Keep h0 h411 [] := K0_409.wr W411 (Or.inr l0_b402)
  have O412 : Old Z n0 h411 := O409.wr W411 g_b402
  have R412 : CHr Z own_EL s.vm h0 T400.vm h411 := R409.trans (CHr.wr W411 sf409_b402 R409.1)
  have hk412 : T400.heap.size ≤ h411.size := Nat.le_trans hk409 (Keep.of_wr W411).1
  have sf412_b402 : Safe Z own_EL T400.vm h411 b402 := Safe.wr W411 sf409_b402 R409.1 sf409_b402
  have N411 := Fr.snoc X411 N408 g_b402
  have f414 := (((((f398_1.keep K400).ext E402).wr W405).wr W408).wr W411)
  have f415 := (((Q402.wr W405).wr W408).wr W411)
  -- pc 114: com/example/larkbridge/larkbridge/mcp/McpResourceContents.binary
  obtain ⟨_, _, ⟨T413, L413, k413, n413⟩, -, X413, hS413, hG413, ⟨Lc413, hQ413, l413, y413, z413, hC413⟩, st413⟩ := callSS X411 hx (y := y5) hw400 (mvT hZ400 (W 34 rfl)) (mvT hZ400 (W 35 rfl)) (mvT hZ400 (W 36 rfl)) (mvT hZ400 (W 37 rfl)) (by decide) (backOfSH (s := s) (W := 0) (rmmcb l Z a0 G1 hG [] b_398 (.ref b_400) b402 k402 (3 : Int32) ([(.int ((p2.toInt8.toInt32).toInt8.toInt32)), (.int ((((p2.toUInt32 >>> ((8 : Int32) &&& 31).toUInt32).toInt32).toInt8.toInt32).toInt8.toInt32)), (.int ((((p2.toUInt32 >>> ((16 : Int32) &&& 31).toUInt32).toInt32).toInt8.toInt32).toInt8.toInt32))] : List Value) h411 n0 Z412 O412 f414 f415 V411 rfl (by decide)) hZ400 (W 37 rfl) (W 36 rfl) (by decide) (by decide) hEL R412.1) (g := (mkF m 114 #[.val (.int p0), .val (.int p1), .val (.int p2), .val (.int p3), .val (.ref b_398), .val (.int vm_), .val (.ref b_400), .val (.int (3 : Int32)), .val (.ref b402), .unset, .unset, .unset, .unset, .unset, .unset, .unset, .unset, .unset, .unset, .unset] [(.ref b402), (.ref b_400), (.ref b_398)])) rfl (by rw [hml]; rfl) (argsL := [(.ref b_398), (.ref b_400), (.ref b402)]) (rest := []) (lenOf pd__Ljava_lang_String_Ljava_lang_String__B_Lcom_example_larkbridge_larkbridge_mcp_McpResourceContents_ rfl) rfl (by show 2 * 0 + _ ≤ _; exact Nat.le_of_eq rfl) (hb hby at_114) (fun _ _ => ⟨rfl, e411, (by decide : 13 + 4 ≤ _), (by decide : 27 + 24 ≤ _)⟩)
  dsimp only [Pt.U, Pt.locs, Pt.cells, Pt.slots] at X413 l413 y413 z413 st413 hQ413 hS413 hG413 hC413
  subst l413 y413 z413
  have hZ413 : Z.Warmed39 T413.vm := State.Warmed39.trans (t := s.setVm T400.vm) hZ400 hS413.1
  have hw413 : T413.vm.findClass "com/example/larkbridge/larkbridge/mcp/McpResourceContentsBinaryPinLaw" = some m.cls := by rw [hS413.1.alike.findClass]; exact hw400
  have hSn413 : s.Since T413.vm T413.heap.size := hSn400.trans hS413 (Nat.le_trans hk412 (by have q := hG413; rw [e411] at q; exact q))
  have X413 : Stand p l e _ (s.setVm T413.vm) m _ below meth c T413 _ _ _ := X413
  obtain ⟨b_413, c_413, rfl, N413q, K413, f413_0, f413_1, f413_2, f413_3, f413_4, f413_5, f413_6, f413_7, f413_8⟩ := hQ413
  have N413 := Fr.app N411 N413q
  have Z416 : n0 ≤ T413.heap.size := Nat.le_trans Z412 K413.1
  have K0_416 : Keep h0 T413.heap [] := K0_412.trans K413 all0
  have O416 : Old Z n0 T413.heap := O412.keep K413 all0
  have hkw413 : T413.heap.size ≤ T413.heap.size := Nat.le_refl _
  have sfw416_b402 : Safe Z own_EL T413.vm T413.heap b402 := hC413.safe f415.lt sf412_b402
  have Rb413 : CHr Z own_EL s.vm h0 T413.vm T413.heap := R412.trans hC413
  have lo_b_413 : h411.size ≤ b_413 := f413_0
  have g_b_413 : n0 ≤ b_413 := Nat.le_trans Z412 lo_b_413
  have l0_b_413 : h0.size ≤ b_413 := Nat.le_trans K0_412.1 lo_b_413
  have lo_c_413 : h411.size ≤ c_413 := f413_1
  have g_c_413 : n0 ≤ c_413 := Nat.le_trans Z412 lo_c_413
  have l0_c_413 : h0.size ≤ c_413 := Nat.le_trans K0_412.1 lo_c_413
  have f417 := (V411.keep K413 nin0)
  obtain ⟨clq418, Arq418, qaq418, Sq418, Nq418, Hq418, Gq418⟩ := id f417
  have hinq418 : ¬ ((0 : Int32) < 0 ∨ clq418.slots.size ≤ ((0 : Int32)).toNatClampNeg) := inb_of Sq418 ⟨by decide, by decide⟩
  have hatq418 : clq418.slots[((0 : Int32)).toNatClampNeg]? = some (.int ((p2.toInt8.toInt32).toInt8.toInt32)) := Has.at Hq418 hinq418 rfl
  obtain ⟨clq419, Arq419, qaq419, Sq419, Nq419, Hq419, Gq419⟩ := id f417
  have hinq419 : ¬ ((0 : Int32) < 0 ∨ clq419.slots.size ≤ ((0 : Int32)).toNatClampNeg) := inb_of Sq419 ⟨by decide, by decide⟩
  obtain ⟨T420, h420, X420, e420, W420, st420⟩ := stB X413 hx hZ413 rfl Arq419 (j := (0 : Int32)) hinq419 (g := (mkF m 134 #[.val (.int p0), .val (.int p1), .val (.int p2), .val (.int p3), .val (.ref b_398), .val (.int vm_), .val (.ref b_400), .val (.int (3 : Int32)), .val (.ref b402), .val (.ref b_413), .unset, .unset, .unset, .unset, .unset, .unset, .unset, .unset, .unset, .unset] [(.int ((((p2.toInt8.toInt32).toInt8.toInt32) ^^^ (-1 : Int32)).toInt8.toInt32)), (.int (0 : Int32)), (.ref b402)])) rfl rfl (hb hby at_134)
  have V420 : Arv Z h420 b402 k402 .byte (3 : Int32) [(.int (((((p2.toInt8.toInt32).toInt8.toInt32) ^^^ (-1 : Int32)).toInt8.toInt32).toInt8.toInt32)), (.int ((((p2.toUInt32 >>> ((8 : Int32) &&& 31).toUInt32).toInt32).toInt8.toInt32).toInt8.toInt32)), (.int ((((p2.toUInt32 >>> ((16 : Int32) &&& 31).toUInt32).toInt32).toInt8.toInt32).toInt8.toInt32))] (.int (0 : Int32)) := Arv.set Arq419 qaq419 Sq419 Nq419 Hq419 Gq419 (fits_nar_byte _) W420 0 rfl (Nat.le_of_ble_eq_true rfl)
  have Z421 : n0 ≤ h420.size := Nat.le_trans Z416 (Keep.of_wr W420).1
  have K0_421 : Keep h0 h420 [] := K0_416.wr W420 (Or.inr l0_b402)
  have O421 : Old Z n0 h420 := O416.wr W420 g_b402
  have R421 : CHr Z own_EL s.vm h0 T413.vm h420 := Rb413.trans (CHr.wr W420 sfw416_b402 Rb413.1)
  have hk421 : T413.heap.size ≤ h420.size := Nat.le_trans hkw413 (Keep.of_wr W420).1
  have sf421_b402 : Safe Z own_EL T413.vm h420 b402 := Safe.wr W420 sfw416_b402 Rb413.1 sfw416_b402
  have N420 := Fr.snoc X420 N413 g_b402
  have f423 := (f413_8.other W420 (Or.inl (Ne.symm (Nat.ne_of_lt (Nat.lt_of_lt_of_le f415.lt lo_b_413)))))
  have f424 := (f413_3.wr W420)
  have f425 := (f413_4.other W420 (Ne.symm (Nat.ne_of_lt (Nat.lt_of_lt_of_le f415.lt lo_c_413))))
  have f426 := (f413_2.wr W420)
  obtain ⟨cq422, kq422, q422a, q422b, q422c⟩ := isOf hZ413 e420 f426
  -- pc 154: com/example/larkbridge/larkbridge/mcp/McpResourceContents.bytes
  obtain ⟨_, _, ⟨T422, L422, k422, n422⟩, -, X422, ⟨Lc422, hQ422, l422, y422, z422⟩, st422⟩ := X420.virtualBack hx (y := y6) (z := y6) hw413 (mvT hZ413 (W 69 rfl)) (mvT hZ413 (W 70 rfl)) (notFace_of_selects (args := #[]) (mvT hZ413 (W 72 rfl))) (mvT hZ413 (W 72 rfl)) (mvT hZ413 (W 71 rfl)) (by decide) (backOf (W := 0) (rmbyt l Z a0 G1 hG [] b_413 c_413 k402 (3 : Int32) ([(.int ((p2.toInt8.toInt32).toInt8.toInt32)), (.int ((((p2.toUInt32 >>> ((8 : Int32) &&& 31).toUInt32).toInt32).toInt8.toInt32).toInt8.toInt32)), (.int ((((p2.toUInt32 >>> ((16 : Int32) &&& 31).toUInt32).toInt32).toInt8.toInt32).toInt8.toInt32))] : List Value) h420 n0 Z421 O421 f423 f424 f425 (by decide)) hZ413 (W 73 rfl) (W 36 rfl) (by decide) (by decide)) q422a q422c (g := (mkF m 154 #[.val (.int p0), .val (.int p1), .val (.int p2), .val (.int p3), .val (.ref b_398), .val (.int vm_), .val (.ref b_400), .val (.int (3 : Int32)), .val (.ref b402), .val (.ref b_413), .unset, .unset, .unset, .unset, .unset, .unset, .unset, .unset, .unset, .unset] [(.ref b_413)])) rfl (by rw [hml]; rfl) (Steps.refl _) (argsL := []) (rest := []) (lenOf pd____B rfl) rfl (by show 2 * 0 + _ ≤ _; exact Nat.le_of_eq rfl) (hb hby at_154) (fun _ _ => ⟨rfl, e420, (by decide : 17 + 1 ≤ _), (by decide : 51 + 4 ≤ _)⟩)
  dsimp only [Pt.U, Pt.locs, Pt.cells, Pt.slots] at X422 l422 y422 z422 st422 hQ422
  subst l422 y422 z422
  obtain ⟨c_422, rfl, N422q, K422, f422_0, f422_1, f422_2⟩ := hQ422
  have N422 := Fr.app N420 N422q
  have Z427 : n0 ≤ T422.heap.size := Nat.le_trans Z421 K422.1
  have K0_427 : Keep h0 T422.heap [] := K0_421.trans K422 all0
  have O427 : Old Z n0 T422.heap := O421.keep K422 all0
  have R427 : CHr Z own_EL s.vm h0 T413.vm T422.heap := R421.trans (CHr.keep K422 sf0 R421.1)
  have hk427 : T413.heap.size ≤ T422.heap.size := Nat.le_trans hk421 K422.1
  have sf427_b402 : Safe Z own_EL T413.vm T422.heap b402 := Safe.keep K422 sf0 R421.1 sf421_b402
  have lo_c_422 : h420.size ≤ c_422 := f422_0
  have g_c_422 : n0 ≤ c_422 := Nat.le_trans Z421 lo_c_422
  have l0_c_422 : h0.size ≤ c_422 := Nat.le_trans K0_421.1 lo_c_422
  have sfc422 : Safe Z own_EL T413.vm T422.heap c_422 := Safe.keep K422 sf0 R421.1 (Safe.new lo_c_422)
  -- pc 164: com/example/larkbridge/larkbridge/mcp/McpResourceContentsBinaryPinLaw.same
  obtain ⟨_, _, ⟨T428, L428, k428, n428⟩, -, X428, ⟨Lc428, hQ428, l428, y428, z428⟩, st428⟩ := Jvm.LawKit.callS X422 hx (y := y12) hw413 (mvT hZ413 (W 74 rfl)) (mvT hZ413 (W 75 rfl)) (mvT hZ413 (W 2 rfl)) (mvT hZ413 (W 76 rfl)) (by decide) (backOf (W := 0) (rmsame3 l Z a0 G1 hG [] c_422 p2 k402 T422.heap n0 Z427 O427 f422_2) hZ413 (W 76 rfl) (W 2 rfl) (by decide) (by decide)) (g := (mkF m 164 #[.val (.int p0), .val (.int p1), .val (.int p2), .val (.int p3), .val (.ref b_398), .val (.int vm_), .val (.ref b_400), .val (.int (3 : Int32)), .val (.ref b402), .val (.ref b_413), .val (.ref c_422), .unset, .unset, .unset, .unset, .unset, .unset, .unset, .unset, .unset] [(.int p2), (.int (3 : Int32)), (.ref c_422)])) rfl (by rw [hml]; rfl) (argsL := [(.ref c_422), (.int (3 : Int32)), (.int p2)]) (rest := []) (lenOf pd___BII_Z rfl) rfl (by show 2 * 0 + _ ≤ _; exact Nat.le_of_eq rfl) (hb hby at_164) (fun _ _ => ⟨rfl, rfl, (by decide : 18 + 0 ≤ _), (by decide : 55 + 0 ≤ _)⟩)
  dsimp only [Pt.U, Pt.locs, Pt.cells, Pt.slots] at X428 l428 y428 z428 st428 hQ428
  subst l428 y428 z428
  obtain ⟨rfl, N428q, eq428⟩ := hQ428
  have N428 := Fr.app N422 N428q
  obtain ⟨clq429, Arq429, qaq429, Sq429, Nq429, Hq429, Gq429⟩ := id f422_2
  obtain ⟨clq430, Arq430, qaq430, Sq430, Nq430, Hq430, Gq430⟩ := id f422_2
  have hinq430 : ¬ ((0 : Int32) < 0 ∨ clq430.slots.size ≤ ((0 : Int32)).toNatClampNeg) := inb_of Sq430 ⟨by decide, by decide⟩
  have hatq430 : clq430.slots[((0 : Int32)).toNatClampNeg]? = some (.int ((p2.toInt8.toInt32).toInt8.toInt32)) := Has.at Hq430 hinq430 rfl
  obtain ⟨clq431, Arq431, qaq431, Sq431, Nq431, Hq431, Gq431⟩ := id f422_2
  have hinq431 : ¬ ((0 : Int32) < 0 ∨ clq431.slots.size ≤ ((0 : Int32)).toNatClampNeg) := inb_of Sq431 ⟨by decide, by decide⟩
  obtain ⟨T432, h432, X432, e432, W432, st432⟩ := stB X428 hx hZ413 eq428 Arq431 (j := (0 : Int32)) hinq431 (g := (mkF m 190 #[.val (.int p0), .val (.int p1), .val (.int p2), .val (.int p3), .val (.ref b_398), .val (.int vm_), .val (.ref b_400), .val (.int (3 : Int32)), .val (.ref b402), .val (.ref b_413), .val (.ref c_422), .val (.int (1 : Int32)), .unset, .unset, .unset, .unset, .unset, .unset, .unset, .unset] [(.int ((((p2.toInt8.toInt32).toInt8.toInt32) ^^^ (-1 : Int32)).toInt8.toInt32)), (.int (0 : Int32)), (.ref c_422)])) rfl rfl (hb hby at_190)
  have V432 : Arv Z h432 c_422 k402 .byte (3 : Int32) [(.int (((((p2.toInt8.toInt32).toInt8.toInt32) ^^^ (-1 : Int32)).toInt8.toInt32).toInt8.toInt32)), (.int ((((p2.toUInt32 >>> ((8 : Int32) &&& 31).toUInt32).toInt32).toInt8.toInt32).toInt8.toInt32)), (.int ((((p2.toUInt32 >>> ((16 : Int32) &&& 31).toUInt32).toInt32).toInt8.toInt32).toInt8.toInt32))] (.int (0 : Int32)) := Arv.set Arq431 qaq431 Sq431 Nq431 Hq431 Gq431 (fits_nar_byte _) W432 0 rfl (Nat.le_of_ble_eq_true rfl)
  have Z433 : n0 ≤ h432.size := Nat.le_trans Z427 (Keep.of_wr W432).1
  have K0_433 : Keep h0 h432 [] := K0_427.wr W432 (Or.inr l0_c_422)
  have O433 : Old Z n0 h432 := O427.wr W432 g_c_422
  have R433 : CHr Z own_EL s.vm h0 T413.vm h432 := R427.trans (CHr.wr W432 sfc422 R427.1)
  have hk433 : T413.heap.size ≤ h432.size := Nat.le_trans hk427 (Keep.of_wr W432).1
  have sf433_b402 : Safe Z own_EL T413.vm h432 b402 := Safe.wr W432 sfc422 R427.1 sf427_b402
  have sf433_c_422 : Safe Z own_EL T413.vm h432 c_422 := Safe.wr W432 sfc422 R427.1 sfc422
  have N432 := Fr.snoc X432 N428 g_c_422
  have f435 := ((f423.keep K422 nin0).other W432 (Or.inl (Nat.ne_of_lt (Nat.lt_of_lt_of_le f426.lt lo_c_422))))
  have f436 := ((f424.keep K422).wr W432)
  have f437 := ((f425.keep K422 nin0).other W432 (Nat.ne_of_lt (Nat.lt_of_lt_of_le f424.lt lo_c_422)))
  have f438 := ((f426.keep K422).wr W432)
  obtain ⟨cq434, kq434, q434a, q434b, q434c⟩ := isOf hZ413 e432 f438
  -- pc 193: com/example/larkbridge/larkbridge/mcp/McpResourceContents.bytes
  obtain ⟨_, _, ⟨T434, L434, k434, n434⟩, -, X434, ⟨Lc434, hQ434, l434, y434, z434⟩, st434⟩ := X432.virtualBack hx (y := y6) (z := y6) hw413 (mvT hZ413 (W 69 rfl)) (mvT hZ413 (W 70 rfl)) (notFace_of_selects (args := #[]) (mvT hZ413 (W 72 rfl))) (mvT hZ413 (W 72 rfl)) (mvT hZ413 (W 71 rfl)) (by decide) (backOf (W := 0) (rmbyt l Z a0 G1 hG [] b_413 c_413 k402 (3 : Int32) ([(.int ((p2.toInt8.toInt32).toInt8.toInt32)), (.int ((((p2.toUInt32 >>> ((8 : Int32) &&& 31).toUInt32).toInt32).toInt8.toInt32).toInt8.toInt32)), (.int ((((p2.toUInt32 >>> ((16 : Int32) &&& 31).toUInt32).toInt32).toInt8.toInt32).toInt8.toInt32))] : List Value) h432 n0 Z433 O433 f435 f436 f437 (by decide)) hZ413 (W 73 rfl) (W 36 rfl) (by decide) (by decide)) q434a q434c (g := (mkF m 193 #[.val (.int p0), .val (.int p1), .val (.int p2), .val (.int p3), .val (.ref b_398), .val (.int vm_), .val (.ref b_400), .val (.int (3 : Int32)), .val (.ref b402), .val (.ref b_413), .val (.ref c_422), .val (.int (1 : Int32)), .unset, .unset, .unset, .unset, .unset, .unset, .unset, .unset] [(.ref b_413)])) rfl (by rw [hml]; rfl) (Steps.refl _) (argsL := []) (rest := []) (lenOf pd____B rfl) rfl (by show 2 * 0 + _ ≤ _; exact Nat.le_of_eq rfl) (hb hby at_193) (fun _ _ => ⟨rfl, e432, (by decide : 18 + 1 ≤ _), (by decide : 55 + 4 ≤ _)⟩)
  dsimp only [Pt.U, Pt.locs, Pt.cells, Pt.slots] at X434 l434 y434 z434 st434 hQ434
  subst l434 y434 z434
  obtain ⟨c_434, rfl, N434q, K434, f434_0, f434_1, f434_2⟩ := hQ434
  have N434 := Fr.app N432 N434q
  have Z439 : n0 ≤ T434.heap.size := Nat.le_trans Z433 K434.1
  have K0_439 : Keep h0 T434.heap [] := K0_433.trans K434 all0
  have O439 : Old Z n0 T434.heap := O433.keep K434 all0
  have R439 : CHr Z own_EL s.vm h0 T413.vm T434.heap := R433.trans (CHr.keep K434 sf0 R433.1)
  have hk439 : T413.heap.size ≤ T434.heap.size := Nat.le_trans hk433 K434.1
  have sf439_b402 : Safe Z own_EL T413.vm T434.heap b402 := Safe.keep K434 sf0 R433.1 sf433_b402
  have sf439_c_422 : Safe Z own_EL T413.vm T434.heap c_422 := Safe.keep K434 sf0 R433.1 sf433_c_422
  have lo_c_434 : h432.size ≤ c_434 := f434_0
  have g_c_434 : n0 ≤ c_434 := Nat.le_trans Z433 lo_c_434
  have l0_c_434 : h0.size ≤ c_434 := Nat.le_trans K0_433.1 lo_c_434
  have sfc434 : Safe Z own_EL T413.vm T434.heap c_434 := Safe.keep K434 sf0 R433.1 (Safe.new lo_c_434)
  -- pc 203: com/example/larkbridge/larkbridge/mcp/McpResourceContentsBinaryPinLaw.same
  obtain ⟨_, _, ⟨T440, L440, k440, n440⟩, -, X440, ⟨Lc440, hQ440, l440, y440, z440⟩, st440⟩ := Jvm.LawKit.callS X434 hx (y := y12) hw413 (mvT hZ413 (W 74 rfl)) (mvT hZ413 (W 75 rfl)) (mvT hZ413 (W 2 rfl)) (mvT hZ413 (W 76 rfl)) (by decide) (backOf (W := 0) (rmsame3 l Z a0 G1 hG [] c_434 p2 k402 T434.heap n0 Z439 O439 f434_2) hZ413 (W 76 rfl) (W 2 rfl) (by decide) (by decide)) (g := (mkF m 203 #[.val (.int p0), .val (.int p1), .val (.int p2), .val (.int p3), .val (.ref b_398), .val (.int vm_), .val (.ref b_400), .val (.int (3 : Int32)), .val (.ref b402), .val (.ref b_413), .val (.ref c_422), .val (.int (1 : Int32)), .val (.ref c_434), .unset, .unset, .unset, .unset, .unset, .unset, .unset] [(.int p2), (.int (3 : Int32)), (.ref c_434)])) rfl (by rw [hml]; rfl) (argsL := [(.ref c_434), (.int (3 : Int32)), (.int p2)]) (rest := []) (lenOf pd___BII_Z rfl) rfl (by show 2 * 0 + _ ≤ _; exact Nat.le_of_eq rfl) (hb hby at_203) (fun _ _ => ⟨rfl, rfl, (by decide : 19 + 0 ≤ _), (by decide : 59 + 0 ≤ _)⟩)
  dsimp only [Pt.U, Pt.locs, Pt.cells, Pt.slots] at X440 l440 y440 z440 st440 hQ440
  subst l440 y440 z440
  obtain ⟨rfl, N440q, eq440⟩ := hQ440
  have N440 := Fr.app N434 N440q
  have f442 := ((((f413_5.other W420 (Or.inl (Ne.symm (Nat.ne_of_lt (Nat.lt_of_lt_of_le f415.lt lo_b_413))))).keep K422 nin0).other W432 (Or.inl (Nat.ne_of_lt (Nat.lt_of_lt_of_le f426.lt lo_c_422)))).keep K434 nin0)
  have f443 := (f438.keep K434)
  obtain ⟨cq441, kq441, q441a, q441b, q441c⟩ := isOf hZ413 eq440 f443
  -- pc 210: com/example/larkbridge/larkbridge/mcp/McpResourceContents.uri
  obtain ⟨_, _, ⟨T441, L441, k441, n441⟩, -, X441, ⟨Lc441, hQ441, l441, y441, z441⟩, st441⟩ := X440.virtualBack hx (y := y7) (z := y7) hw413 (mvT hZ413 (W 77 rfl)) (mvT hZ413 (W 78 rfl)) (notFace_of_selects (args := #[]) (mvT hZ413 (W 80 rfl))) (mvT hZ413 (W 80 rfl)) (mvT hZ413 (W 79 rfl)) (by decide) (backOf (W := 0) (rmG_McpResourceContents_uri l Z a0 G1 hG [] b_413 (.ref b_398) T434.heap n0 Z439 O439 f442 rfl) hZ413 (W 81 rfl) (W 36 rfl) (by decide) (by decide)) q441a q441c (g := (mkF m 210 #[.val (.int p0), .val (.int p1), .val (.int p2), .val (.int p3), .val (.ref b_398), .val (.int vm_), .val (.ref b_400), .val (.int (3 : Int32)), .val (.ref b402), .val (.ref b_413), .val (.ref c_422), .val (.int (1 : Int32)), .val (.ref c_434), .val (.int (1 : Int32)), .unset, .unset, .unset, .unset, .unset, .unset] [(.ref b_413)])) rfl (by rw [hml]; rfl) (Steps.refl _) (argsL := []) (rest := []) (lenOf pd___Ljava_lang_String_ rfl) rfl (by show 2 * 0 + _ ≤ _; exact Nat.le_of_eq rfl) (hb hby at_210) (fun _ _ => ⟨rfl, eq440, (by decide : 19 + 0 ≤ _), (by decide : 59 + 0 ≤ _)⟩)
  dsimp only [Pt.U, Pt.locs, Pt.cells, Pt.slots] at X441 l441 y441 z441 st441 hQ441
  subst l441 y441 z441
  obtain ⟨rfl, N441q, eq441⟩ := hQ441
  have N441 := Fr.app N440 N441q
  have f445 := (((((f414.keep K413).wr W420).keep K422).wr W432).keep K434)
  obtain ⟨cq444, kq444, q444a, q444b, q444c⟩ := isOf hZ413 eq441 f445
  -- pc 219: java/lang/String.equals
  obtain ⟨_, _, ⟨T444, L444, k444, n444⟩, -, X444, ⟨Lc444, hQ444, l444, y444, z444⟩, st444⟩ := X441.virtualBack hx (y := y11) (z := y11) hw413 (mvT hZ413 (W 82 rfl)) (mvT hZ413 (W 83 rfl)) (notFace_of_selects (args := #[]) (mvT hZ413 (W 85 rfl))) (mvT hZ413 (W 85 rfl)) (mvT hZ413 (W 84 rfl)) (by decide) (backOf (W := 0) (rmeqs l Z a0 G1 hG [] b_398 T434.heap n0 Z439 O439) hZ413 (W 86 rfl) (W 6 rfl) (by decide) (by decide)) q444a q444c (g := (mkF m 219 #[.val (.int p0), .val (.int p1), .val (.int p2), .val (.int p3), .val (.ref b_398), .val (.int vm_), .val (.ref b_400), .val (.int (3 : Int32)), .val (.ref b402), .val (.ref b_413), .val (.ref c_422), .val (.int (1 : Int32)), .val (.ref c_434), .val (.int (1 : Int32)), .val (.ref b_398), .unset, .unset, .unset, .unset, .unset] [(.ref b_398), (.ref b_398)])) rfl (by rw [hml]; rfl) (Steps.refl _) (argsL := [(.ref b_398)]) (rest := []) (lenOf pd__Ljava_lang_Object__Z rfl) rfl (by show 2 * 0 + _ ≤ _; exact Nat.le_of_eq rfl) (hb hby at_219) (fun _ _ => ⟨rfl, eq441, (by decide : 19 + 0 ≤ _), (by decide : 59 + 0 ≤ _)⟩)
  dsimp only [Pt.U, Pt.locs, Pt.cells, Pt.slots] at X444 l444 y444 z444 st444 hQ444
  subst l444 y444 z444
  obtain ⟨rfl, N444q, eq444⟩ := hQ444
  have N444 := Fr.app N441 N444q
  have f447 := ((((f413_6.other W420 (Or.inl (Ne.symm (Nat.ne_of_lt (Nat.lt_of_lt_of_le f415.lt lo_b_413))))).keep K422 nin0).other W432 (Or.inl (Nat.ne_of_lt (Nat.lt_of_lt_of_le f426.lt lo_c_422)))).keep K434 nin0)
  obtain ⟨cq446, kq446, q446a, q446b, q446c⟩ := isOf hZ413 eq444 f443
  -- pc 226: com/example/larkbridge/larkbridge/mcp/McpResourceContents.mimeType
  obtain ⟨_, _, ⟨T446, L446, k446, n446⟩, -, X446, ⟨Lc446, hQ446, l446, y446, z446⟩, st446⟩ := X444.virtualBack hx (y := y8) (z := y8) hw413 (mvT hZ413 (W 87 rfl)) (mvT hZ413 (W 88 rfl)) (notFace_of_selects (args := #[]) (mvT hZ413 (W 90 rfl))) (mvT hZ413 (W 90 rfl)) (mvT hZ413 (W 89 rfl)) (by decide) (backOf (W := 0) (rmG_McpResourceContents_mimeType l Z a0 G1 hG [] b_413 (.ref b_400) T434.heap n0 Z439 O439 f447 rfl) hZ413 (W 91 rfl) (W 36 rfl) (by decide) (by decide)) q446a q446c (g := (mkF m 226 #[.val (.int p0), .val (.int p1), .val (.int p2), .val (.int p3), .val (.ref b_398), .val (.int vm_), .val (.ref b_400), .val (.int (3 : Int32)), .val (.ref b402), .val (.ref b_413), .val (.ref c_422), .val (.int (1 : Int32)), .val (.ref c_434), .val (.int (1 : Int32)), .val (.ref b_398), .val (.int (1 : Int32)), .unset, .unset, .unset, .unset] [(.ref b_413)])) rfl (by rw [hml]; rfl) (Steps.refl _) (argsL := []) (rest := []) (lenOf pd___Ljava_lang_String_ rfl) rfl (by show 2 * 0 + _ ≤ _; exact Nat.le_of_eq rfl) (hb hby at_226) (fun _ _ => ⟨rfl, eq444, (by decide : 19 + 0 ≤ _), (by decide : 59 + 0 ≤ _)⟩)
  dsimp only [Pt.U, Pt.locs, Pt.cells, Pt.slots] at X446 l446 y446 z446 st446 hQ446
  subst l446 y446 z446
  obtain ⟨rfl, N446q, eq446⟩ := hQ446
  have N446 := Fr.app N444 N446q
  have f449 := (((((((((f400_1.ext E402).wr W405).wr W408).wr W411).keep K413).wr W420).keep K422).wr W432).keep K434)
  obtain ⟨cq448, kq448, q448a, q448b, q448c⟩ := isOf hZ413 eq446 f449
  -- pc 253: java/lang/String.equals
  obtain ⟨_, _, ⟨T448, L448, k448, n448⟩, -, X448, ⟨Lc448, hQ448, l448, y448, z448⟩, st448⟩ := X446.virtualBack hx (y := y11) (z := y11) hw413 (mvT hZ413 (W 82 rfl)) (mvT hZ413 (W 83 rfl)) (notFace_of_selects (args := #[]) (mvT hZ413 (W 85 rfl))) (mvT hZ413 (W 85 rfl)) (mvT hZ413 (W 84 rfl)) (by decide) (backOf (W := 0) (rmeqs l Z a0 G1 hG [] b_400 T434.heap n0 Z439 O439) hZ413 (W 86 rfl) (W 6 rfl) (by decide) (by decide)) q448a q448c (g := (mkF m 253 #[.val (.int p0), .val (.int p1), .val (.int p2), .val (.int p3), .val (.ref b_398), .val (.int vm_), .val (.ref b_400), .val (.int (3 : Int32)), .val (.ref b402), .val (.ref b_413), .val (.ref c_422), .val (.int (1 : Int32)), .val (.ref c_434), .val (.int (1 : Int32)), .val (.ref b_398), .val (.int (1 : Int32)), .val (.ref b_400), .unset, .unset, .unset] [(.ref b_400), (.ref b_400)])) rfl (by rw [hml]; rfl) (Steps.refl _) (argsL := [(.ref b_400)]) (rest := []) (lenOf pd__Ljava_lang_Object__Z rfl) rfl (by show 2 * 0 + _ ≤ _; exact Nat.le_of_eq rfl) (hb hby at_253) (fun _ _ => ⟨rfl, eq446, (by decide : 19 + 0 ≤ _), (by decide : 59 + 0 ≤ _)⟩)
  dsimp only [Pt.U, Pt.locs, Pt.cells, Pt.slots] at X448 l448 y448 z448 st448 hQ448
  subst l448 y448 z448
  obtain ⟨rfl, N448q, eq448⟩ := hQ448
  have N448 := Fr.app N446 N448q
  have f451 := ((((f413_7.other W420 (Or.inl (Ne.symm (Nat.ne_of_lt (Nat.lt_of_lt_of_le f415.lt lo_b_413))))).keep K422 nin0).other W432 (Or.inl (Nat.ne_of_lt (Nat.lt_of_lt_of_le f426.lt lo_c_422)))).keep K434 nin0)
  obtain ⟨cq450, kq450, q450a, q450b, q450c⟩ := isOf hZ413 eq448 f443
  -- pc 260: com/example/larkbridge/larkbridge/mcp/McpResourceContents.isText
  obtain ⟨_, _, ⟨T450, L450, k450, n450⟩, -, X450, ⟨Lc450, hQ450, l450, y450, z450⟩, st450⟩ := X448.virtualBack hx (y := y9) (z := y9) hw413 (mvT hZ413 (W 92 rfl)) (mvT hZ413 (W 93 rfl)) (notFace_of_selects (args := #[]) (mvT hZ413 (W 95 rfl))) (mvT hZ413 (W 95 rfl)) (mvT hZ413 (W 94 rfl)) (by decide) (backOf (W := 0) (rmist l Z a0 G1 hG [] b_413 T434.heap n0 Z439 O439 f451) hZ413 (W 96 rfl) (W 36 rfl) (by decide) (by decide)) q450a q450c (g := (mkF m 260 #[.val (.int p0), .val (.int p1), .val (.int p2), .val (.int p3), .val (.ref b_398), .val (.int vm_), .val (.ref b_400), .val (.int (3 : Int32)), .val (.ref b402), .val (.ref b_413), .val (.ref c_422), .val (.int (1 : Int32)), .val (.ref c_434), .val (.int (1 : Int32)), .val (.ref b_398), .val (.int (1 : Int32)), .val (.ref b_400), .val (.int (1 : Int32)), .unset, .unset] [(.ref b_413)])) rfl (by rw [hml]; rfl) (Steps.refl _) (argsL := []) (rest := []) (lenOf pd___Z rfl) rfl (by show 2 * 0 + _ ≤ _; exact Nat.le_of_eq rfl) (hb hby at_260) (fun _ _ => ⟨rfl, eq448, (by decide : 19 + 0 ≤ _), (by decide : 59 + 0 ≤ _)⟩)
  dsimp only [Pt.U, Pt.locs, Pt.cells, Pt.slots] at X450 l450 y450 z450 st450 hQ450
  subst l450 y450 z450
  obtain ⟨rfl, N450q, eq450⟩ := hQ450
  have N450 := Fr.app N448 N450q
  obtain ⟨cq452, kq452, q452a, q452b, q452c⟩ := isOf hZ413 eq450 f443
  -- pc 275: com/example/larkbridge/larkbridge/mcp/McpResourceContents.text
  obtain ⟨_, _, ⟨T452, L452, k452, n452⟩, -, X452, ⟨Lc452, hQ452, l452, y452, z452⟩, st452⟩ := X450.virtualBack hx (y := y10) (z := y10) hw413 (mvT hZ413 (W 97 rfl)) (mvT hZ413 (W 98 rfl)) (notFace_of_selects (args := #[]) (mvT hZ413 (W 100 rfl))) (mvT hZ413 (W 100 rfl)) (mvT hZ413 (W 99 rfl)) (by decide) (backOf (W := 0) (rmtxt l Z a0 G1 hG [] b_413 T434.heap n0 Z439 O439 f451) hZ413 (W 101 rfl) (W 36 rfl) (by decide) (by decide)) q452a q452c (g := (mkF m 275 #[.val (.int p0), .val (.int p1), .val (.int p2), .val (.int p3), .val (.ref b_398), .val (.int vm_), .val (.ref b_400), .val (.int (3 : Int32)), .val (.ref b402), .val (.ref b_413), .val (.ref c_422), .val (.int (1 : Int32)), .val (.ref c_434), .val (.int (1 : Int32)), .val (.ref b_398), .val (.int (1 : Int32)), .val (.ref b_400), .val (.int (1 : Int32)), .val (.int (1 : Int32)), .unset] [(.ref b_413)])) rfl (by rw [hml]; rfl) (Steps.refl _) (argsL := []) (rest := []) (lenOf pd___Ljava_lang_String_ rfl) rfl (by show 2 * 0 + _ ≤ _; exact Nat.le_of_eq rfl) (hb hby at_275) (fun _ _ => ⟨rfl, eq450, (by decide : 19 + 0 ≤ _), (by decide : 59 + 0 ≤ _)⟩)
  dsimp only [Pt.U, Pt.locs, Pt.cells, Pt.slots] at X452 l452 y452 z452 st452 hQ452
  subst l452 y452 z452
  obtain ⟨rfl, N452q, eq452⟩ := hQ452
  have N452 := Fr.app N450 N452q
  obtain ⟨fs, hr, hrun, hended, hend⟩ := Jvm.Stand.leaveW (v := some (.int (1 : Int32))) X452 hSn413 (by rw [eq452]; exact hk439) (fun h => by rw [Bd.returns] at h; cases h)
  have hFin := R439.trans (CHv.at X452 hZ413 hEL R439.1)
  refine ⟨_, _, pre0 _ ?_, hrun, hended, _, _, rfl, ?_, ?_, own_mono hend (Nat.le_of_ble_eq_true rfl) (Nat.le_of_ble_eq_true rfl)⟩
  · show Steps p.tables e below (s₁.setTop (mkF m 0 #[.val (.int p0), .val (.int p1), .val (.int p2), .val (.int p3), .unset, .unset, .unset, .unset, .unset, .unset, .unset, .unset, .unset, .unset, .unset, .unset, .unset, .unset, .unset, .unset] [])) _
    refine XS.iloadN X0.here hx rfl (hb hby at_0) rfl ?_
    refine XS.iloadN X0.here hx rfl (hb hby at_1) rfl ?_
    refine XS.iconst X0.here hx rfl (hb hby at_2) ?_
    refine XS.iand X0.here hx rfl (hb hby at_3) rfl ?_
    refine st398.trans ?_
    show Steps p.tables e below (T398.setTop (mkF m 7 #[.val (.int p0), .val (.int p1), .val (.int p2), .val (.int p3), .unset, .unset, .unset, .unset, .unset, .unset, .unset, .unset, .unset, .unset, .unset, .unset, .unset, .unset, .unset, .unset] [(.ref b_398)])) _
    refine XS.astore X398.here hx rfl (hb hby at_7) rfl rfl (l' := #[.val (.int p0), .val (.int p1), .val (.int p2), .val (.int p3), .val (.ref b_398), .unset, .unset, .unset, .unset, .unset, .unset, .unset, .unset, .unset, .unset, .unset, .unset, .unset, .unset, .unset]) rfl ?_
    refine XS.iloadN X398.here hx rfl (hb hby at_9) rfl ?_
    refine XS.iconst X398.here hx rfl (hb hby at_10) ?_
    refine XS.iushr X398.here hx rfl (hb hby at_11) rfl ?_
    refine XS.bipush X398.here hx rfl (hb hby at_12) ?_
    refine XS.iand X398.here hx rfl (hb hby at_14) rfl ?_
    show Steps p.tables e below (T398.setTop (mkF m 15 #[.val (.int p0), .val (.int p1), .val (.int p2), .val (.int p3), .val (.ref b_398), .unset, .unset, .unset, .unset, .unset, .unset, .unset, .unset, .unset, .unset, .unset, .unset, .unset, .unset, .unset] [(.int (((p3.toUInt32 >>> ((2 : Int32) &&& 31).toUInt32).toInt32) &&& (7 : Int32)))])) _
    rw [← hvm]
    show Steps p.tables e below (T398.setTop (mkF m 15 #[.val (.int p0), .val (.int p1), .val (.int p2), .val (.int p3), .val (.ref b_398), .unset, .unset, .unset, .unset, .unset, .unset, .unset, .unset, .unset, .unset, .unset, .unset, .unset, .unset, .unset] [(.int vm_)])) _
    refine XS.istore X398.here hx rfl (hb hby at_15) rfl (l' := #[.val (.int p0), .val (.int p1), .val (.int p2), .val (.int p3), .val (.ref b_398), .val (.int vm_), .unset, .unset, .unset, .unset, .unset, .unset, .unset, .unset, .unset, .unset, .unset, .unset, .unset, .unset]) rfl ?_
    refine XS.iload X398.here hx rfl (hb hby at_17) rfl ?_
    refine XS.ifYes X398.here hx rfl (pc0 := 19) (pc' := 26) rfl (hb hby at_19) rfl ((if0 _ _).trans (feq ((by rw [hvm]; exact hm) : ¬ (vm_ = (0 : Int32)))).2) (by decide) (by decide) ?_
    refine XS.iloadN X398.here hx rfl (hb hby at_26) rfl ?_
    refine XS.iload X398.here hx rfl (hb hby at_27) rfl ?_
    refine XS.iconst X398.here hx rfl (hb hby at_29) ?_
    refine XS.iand X398.here hx rfl (hb hby at_30) rfl ?_
    refine st400.trans ?_
    show Steps p.tables e below (T400.setTop (mkF m 34 #[.val (.int p0), .val (.int p1), .val (.int p2), .val (.int p3), .val (.ref b_398), .val (.int vm_), .unset, .unset, .unset, .unset, .unset, .unset, .unset, .unset, .unset, .unset, .unset, .unset, .unset, .unset] [(.ref b_400)])) _
    refine XS.astore X400.here hx rfl (hb hby at_34) rfl rfl (l' := #[.val (.int p0), .val (.int p1), .val (.int p2), .val (.int p3), .val (.ref b_398), .val (.int vm_), .val (.ref b_400), .unset, .unset, .unset, .unset, .unset, .unset, .unset, .unset, .unset, .unset, .unset, .unset, .unset]) rfl ?_
    refine XS.iloadN X400.here hx rfl (hb hby at_36) rfl ?_
    refine XS.iconst X400.here hx rfl (hb hby at_37) ?_
    refine XS.iushr X400.here hx rfl (hb hby at_38) rfl ?_
    refine XS.bipush X400.here hx rfl (hb hby at_39) ?_
    refine XS.iand X400.here hx rfl (hb hby at_41) rfl ?_
    refine XS.iconst X400.here hx rfl (hb hby at_42) ?_
    refine iremM (g := (mkF m 43 #[.val (.int p0), .val (.int p1), .val (.int p2), .val (.int p3), .val (.ref b_398), .val (.int vm_), .val (.ref b_400), .unset, .unset, .unset, .unset, .unset, .unset, .unset, .unset, .unset, .unset, .unset, .unset, .unset] [(.int (5 : Int32)), (.int (((p3.toUInt32 >>> ((5 : Int32) &&& 31).toUInt32).toInt32) &&& (7 : Int32)))])) X400 hx rfl (hb hby at_43) rfl (by decide) ?_
    show Steps p.tables e below (T400.setTop (mkF m 44 #[.val (.int p0), .val (.int p1), .val (.int p2), .val (.int p3), .val (.ref b_398), .val (.int vm_), .val (.ref b_400), .unset, .unset, .unset, .unset, .unset, .unset, .unset, .unset, .unset, .unset, .unset, .unset, .unset] [(.int ((((p3.toUInt32 >>> ((5 : Int32) &&& 31).toUInt32).toInt32) &&& (7 : Int32)) % (5 : Int32)))])) _
    rw [hn]
    show Steps p.tables e below (T400.setTop (mkF m 44 #[.val (.int p0), .val (.int p1), .val (.int p2), .val (.int p3), .val (.ref b_398), .val (.int vm_), .val (.ref b_400), .unset, .unset, .unset, .unset, .unset, .unset, .unset, .unset, .unset, .unset, .unset, .unset, .unset] [(.int (3 : Int32))])) _
    refine XS.istore X400.here hx rfl (hb hby at_44) rfl (l' := #[.val (.int p0), .val (.int p1), .val (.int p2), .val (.int p3), .val (.ref b_398), .val (.int vm_), .val (.ref b_400), .val (.int (3 : Int32)), .unset, .unset, .unset, .unset, .unset, .unset, .unset, .unset, .unset, .unset, .unset, .unset]) rfl ?_
    refine XS.iload X400.here hx rfl (hb hby at_46) rfl ?_
    refine st402 _ ?_
    show Steps p.tables e below (T402.setTop (mkF m 50 #[.val (.int p0), .val (.int p1), .val (.int p2), .val (.int p3), .val (.ref b_398), .val (.int vm_), .val (.ref b_400), .val (.int (3 : Int32)), .unset, .unset, .unset, .unset, .unset, .unset, .unset, .unset, .unset, .unset, .unset, .unset] [(.ref b402)])) _
    refine XS.astore X402.here hx rfl (hb hby at_50) rfl rfl (l' := #[.val (.int p0), .val (.int p1), .val (.int p2), .val (.int p3), .val (.ref b_398), .val (.int vm_), .val (.ref b_400), .val (.int (3 : Int32)), .val (.ref b402), .unset, .unset, .unset, .unset, .unset, .unset, .unset, .unset, .unset, .unset, .unset]) rfl ?_
    refine XS.iload X402.here hx rfl (hb hby at_52) rfl ?_
    refine XS.ifNo X402.here hx rfl (hb hby at_54) rfl ((if0 _ _).trans (tlt (by decide : (0 : Int32) < (3 : Int32))).2.2.2) ?_
    refine XS.aload X402.here hx rfl (hb hby at_57) rfl rfl ?_
    refine XS.iconst X402.here hx rfl (hb hby at_59) ?_
    refine XS.iloadN X402.here hx rfl (hb hby at_60) rfl ?_
    refine XS.i2b X402.here hx rfl (hb hby at_61) rfl ?_
    refine st405 _ ?_
    show Steps p.tables e below (T405.setTop (mkF m 63 #[.val (.int p0), .val (.int p1), .val (.int p2), .val (.int p3), .val (.ref b_398), .val (.int vm_), .val (.ref b_400), .val (.int (3 : Int32)), .val (.ref b402), .unset, .unset, .unset, .unset, .unset, .unset, .unset, .unset, .unset, .unset, .unset] [])) _
    refine XS.iload X405.here hx rfl (hb hby at_63) rfl ?_
    refine XS.iconst X405.here hx rfl (hb hby at_65) ?_
    refine XS.icmpNo X405.here hx rfl (hb hby at_66) rfl (tlt (by decide : (1 : Int32) < (3 : Int32))).2.2.2 ?_
    refine XS.aload X405.here hx rfl (hb hby at_69) rfl rfl ?_
    refine XS.iconst X405.here hx rfl (hb hby at_71) ?_
    refine XS.iloadN X405.here hx rfl (hb hby at_72) rfl ?_
    refine XS.bipush X405.here hx rfl (hb hby at_73) ?_
    refine XS.iushr X405.here hx rfl (hb hby at_75) rfl ?_
    show Steps p.tables e below (T405.setTop (mkF m 76 #[.val (.int p0), .val (.int p1), .val (.int p2), .val (.int p3), .val (.ref b_398), .val (.int vm_), .val (.ref b_400), .val (.int (3 : Int32)), .val (.ref b402), .unset, .unset, .unset, .unset, .unset, .unset, .unset, .unset, .unset, .unset, .unset] [(.int ((p2.toUInt32 >>> ((8 : Int32) &&& 31).toUInt32).toInt32)), (.int (1 : Int32)), (.ref b402)])) _
    refine XS.i2b X405.here hx rfl (hb hby at_76) rfl ?_
    refine st408 _ ?_
    show Steps p.tables e below (T408.setTop (mkF m 78 #[.val (.int p0), .val (.int p1), .val (.int p2), .val (.int p3), .val (.ref b_398), .val (.int vm_), .val (.ref b_400), .val (.int (3 : Int32)), .val (.ref b402), .unset, .unset, .unset, .unset, .unset, .unset, .unset, .unset, .unset, .unset, .unset] [])) _
    refine XS.iload X408.here hx rfl (hb hby at_78) rfl ?_
    refine XS.iconst X408.here hx rfl (hb hby at_80) ?_
    refine XS.icmpNo X408.here hx rfl (hb hby at_81) rfl (tlt (by decide : (2 : Int32) < (3 : Int32))).2.2.2 ?_
    refine XS.aload X408.here hx rfl (hb hby at_84) rfl rfl ?_
    refine XS.iconst X408.here hx rfl (hb hby at_86) ?_
    refine XS.iloadN X408.here hx rfl (hb hby at_87) rfl ?_
    refine XS.bipush X408.here hx rfl (hb hby at_88) ?_
    refine XS.iushr X408.here hx rfl (hb hby at_90) rfl ?_
    show Steps p.tables e below (T408.setTop (mkF m 91 #[.val (.int p0), .val (.int p1), .val (.int p2), .val (.int p3), .val (.ref b_398), .val (.int vm_), .val (.ref b_400), .val (.int (3 : Int32)), .val (.ref b402), .unset, .unset, .unset, .unset, .unset, .unset, .unset, .unset, .unset, .unset, .unset] [(.int ((p2.toUInt32 >>> ((16 : Int32) &&& 31).toUInt32).toInt32)), (.int (2 : Int32)), (.ref b402)])) _
    refine XS.i2b X408.here hx rfl (hb hby at_91) rfl ?_
    refine st411 _ ?_
    show Steps p.tables e below (T411.setTop (mkF m 93 #[.val (.int p0), .val (.int p1), .val (.int p2), .val (.int p3), .val (.ref b_398), .val (.int vm_), .val (.ref b_400), .val (.int (3 : Int32)), .val (.ref b402), .unset, .unset, .unset, .unset, .unset, .unset, .unset, .unset, .unset, .unset, .unset] [])) _
    refine XS.iload X411.here hx rfl (hb hby at_93) rfl ?_
    refine XS.iconst X411.here hx rfl (hb hby at_95) ?_
    refine XS.icmpYes X411.here hx rfl (pc0 := 96) (pc' := 108) rfl (hb hby at_96) rfl (flt (by decide : ¬ ((3 : Int32) < (3 : Int32)))).2.2.2 (by decide) (by decide) ?_
    refine XS.aload X411.here hx rfl (hb hby at_108) rfl rfl ?_
    refine XS.aload X411.here hx rfl (hb hby at_110) rfl rfl ?_
    refine XS.aload X411.here hx rfl (hb hby at_112) rfl rfl ?_
    refine st413.trans ?_
    show Steps p.tables e below (T413.setTop (mkF m 117 #[.val (.int p0), .val (.int p1), .val (.int p2), .val (.int p3), .val (.ref b_398), .val (.int vm_), .val (.ref b_400), .val (.int (3 : Int32)), .val (.ref b402), .unset, .unset, .unset, .unset, .unset, .unset, .unset, .unset, .unset, .unset, .unset] [(.ref b_413)])) _
    refine XS.astore X413.here hx rfl (hb hby at_117) rfl rfl (l' := #[.val (.int p0), .val (.int p1), .val (.int p2), .val (.int p3), .val (.ref b_398), .val (.int vm_), .val (.ref b_400), .val (.int (3 : Int32)), .val (.ref b402), .val (.ref b_413), .unset, .unset, .unset, .unset, .unset, .unset, .unset, .unset, .unset, .unset]) rfl ?_
    refine XS.iload X413.here hx rfl (hb hby at_119) rfl ?_
    refine XS.ifNo X413.here hx rfl (hb hby at_121) rfl ((if0 _ _).trans (tlt (by decide : (0 : Int32) < (3 : Int32))).2.2.2) ?_
    refine XS.aload X413.here hx rfl (hb hby at_124) rfl rfl ?_
    refine XS.iconst X413.here hx rfl (hb hby at_126) ?_
    refine XS.aload X413.here hx rfl (hb hby at_127) rfl rfl ?_
    refine XS.iconst X413.here hx rfl (hb hby at_129) ?_
    refine X413.baloadBytes hx (j := (0 : Int32)) (v := (.int ((p2.toInt8.toInt32).toInt8.toInt32))) (own_cell rfl Arq418.1) (State.isArrayOf_alike hZ413.alike Arq418.2.1) Arq418.2.2 hinq418 hatq418 (g := (mkF m 130 #[.val (.int p0), .val (.int p1), .val (.int p2), .val (.int p3), .val (.ref b_398), .val (.int vm_), .val (.ref b_400), .val (.int (3 : Int32)), .val (.ref b402), .val (.ref b_413), .unset, .unset, .unset, .unset, .unset, .unset, .unset, .unset, .unset, .unset] [(.int (0 : Int32)), (.ref b402), (.int (0 : Int32)), (.ref b402)])) rfl rfl (hb hby at_130) _ ?_
    show Steps p.tables e below (T413.setTop (mkF m 131 #[.val (.int p0), .val (.int p1), .val (.int p2), .val (.int p3), .val (.ref b_398), .val (.int vm_), .val (.ref b_400), .val (.int (3 : Int32)), .val (.ref b402), .val (.ref b_413), .unset, .unset, .unset, .unset, .unset, .unset, .unset, .unset, .unset, .unset] [(.int ((p2.toInt8.toInt32).toInt8.toInt32)), (.int (0 : Int32)), (.ref b402)])) _
    refine XS.iconst X413.here hx rfl (hb hby at_131) ?_
    refine XS.ixor X413.here hx rfl (hb hby at_132) rfl ?_
    refine XS.i2b X413.here hx rfl (hb hby at_133) rfl ?_
    refine st420 _ ?_
    show Steps p.tables e below (T420.setTop (mkF m 135 #[.val (.int p0), .val (.int p1), .val (.int p2), .val (.int p3), .val (.ref b_398), .val (.int vm_), .val (.ref b_400), .val (.int (3 : Int32)), .val (.ref b402), .val (.ref b_413), .unset, .unset, .unset, .unset, .unset, .unset, .unset, .unset, .unset, .unset] [])) _
    refine XS.iload X420.here hx rfl (hb hby at_135) rfl ?_
    refine XS.iconst X420.here hx rfl (hb hby at_137) ?_
    refine XS.icmpYes X420.here hx rfl (pc0 := 138) (pc' := 152) rfl (hb hby at_138) rfl (flt (by decide : ¬ ((3 : Int32) < (3 : Int32)))).2.2.2 (by decide) (by decide) ?_
    refine XS.aload X420.here hx rfl (hb hby at_152) rfl rfl ?_
    refine st422.trans ?_
    show Steps p.tables e below (T422.setTop (mkF m 157 #[.val (.int p0), .val (.int p1), .val (.int p2), .val (.int p3), .val (.ref b_398), .val (.int vm_), .val (.ref b_400), .val (.int (3 : Int32)), .val (.ref b402), .val (.ref b_413), .unset, .unset, .unset, .unset, .unset, .unset, .unset, .unset, .unset, .unset] [(.ref c_422)])) _
    refine XS.astore X422.here hx rfl (hb hby at_157) rfl rfl (l' := #[.val (.int p0), .val (.int p1), .val (.int p2), .val (.int p3), .val (.ref b_398), .val (.int vm_), .val (.ref b_400), .val (.int (3 : Int32)), .val (.ref b402), .val (.ref b_413), .val (.ref c_422), .unset, .unset, .unset, .unset, .unset, .unset, .unset, .unset, .unset]) rfl ?_
    refine XS.aload X422.here hx rfl (hb hby at_159) rfl rfl ?_
    refine XS.iload X422.here hx rfl (hb hby at_161) rfl ?_
    refine XS.iloadN X422.here hx rfl (hb hby at_163) rfl ?_
    refine st428 _ ?_
    show Steps p.tables e below (T428.setTop (mkF m 167 #[.val (.int p0), .val (.int p1), .val (.int p2), .val (.int p3), .val (.ref b_398), .val (.int vm_), .val (.ref b_400), .val (.int (3 : Int32)), .val (.ref b402), .val (.ref b_413), .val (.ref c_422), .unset, .unset, .unset, .unset, .unset, .unset, .unset, .unset, .unset] [(.int (1 : Int32))])) _
    refine XS.istore X428.here hx rfl (hb hby at_167) rfl (l' := #[.val (.int p0), .val (.int p1), .val (.int p2), .val (.int p3), .val (.ref b_398), .val (.int vm_), .val (.ref b_400), .val (.int (3 : Int32)), .val (.ref b402), .val (.ref b_413), .val (.ref c_422), .val (.int (1 : Int32)), .unset, .unset, .unset, .unset, .unset, .unset, .unset, .unset]) rfl ?_
    refine XS.aload X428.here hx rfl (hb hby at_169) rfl rfl ?_
    refine XS.ifnullNo X428.here hx rfl (hb hby at_171) rfl ?_
    refine XS.aload X428.here hx rfl (hb hby at_174) rfl rfl ?_
    refine X428.arraylength hx (own_cell eq428 Arq429.1) (State.isArrayOf_alike hZ413.alike Arq429.2.1) (g := (mkF m 176 #[.val (.int p0), .val (.int p1), .val (.int p2), .val (.int p3), .val (.ref b_398), .val (.int vm_), .val (.ref b_400), .val (.int (3 : Int32)), .val (.ref b402), .val (.ref b_413), .val (.ref c_422), .val (.int (1 : Int32)), .unset, .unset, .unset, .unset, .unset, .unset, .unset, .unset] [(.ref c_422)])) rfl rfl (hb hby at_176) _ ?_
    rw [len_of Sq429 Nq429]
    refine XS.ifNo X428.here hx rfl (hb hby at_177) rfl ((if0 _ _).trans (tlt (by decide : (0 : Int32) < (3 : Int32))).2.2.2) ?_
    refine XS.aload X428.here hx rfl (hb hby at_180) rfl rfl ?_
    refine XS.iconst X428.here hx rfl (hb hby at_182) ?_
    show Steps p.tables e below (T428.setTop (mkF m 183 #[.val (.int p0), .val (.int p1), .val (.int p2), .val (.int p3), .val (.ref b_398), .val (.int vm_), .val (.ref b_400), .val (.int (3 : Int32)), .val (.ref b402), .val (.ref b_413), .val (.ref c_422), .val (.int (1 : Int32)), .unset, .unset, .unset, .unset, .unset, .unset, .unset, .unset] [(.int (0 : Int32)), (.ref c_422)])) _
    refine XS.aload X428.here hx rfl (hb hby at_183) rfl rfl ?_
    refine XS.iconst X428.here hx rfl (hb hby at_185) ?_
    refine X428.baloadBytes hx (j := (0 : Int32)) (v := (.int ((p2.toInt8.toInt32).toInt8.toInt32))) (own_cell eq428 Arq430.1) (State.isArrayOf_alike hZ413.alike Arq430.2.1) Arq430.2.2 hinq430 hatq430 (g := (mkF m 186 #[.val (.int p0), .val (.int p1), .val (.int p2), .val (.int p3), .val (.ref b_398), .val (.int vm_), .val (.ref b_400), .val (.int (3 : Int32)), .val (.ref b402), .val (.ref b_413), .val (.ref c_422), .val (.int (1 : Int32)), .unset, .unset, .unset, .unset, .unset, .unset, .unset, .unset] [(.int (0 : Int32)), (.ref c_422), (.int (0 : Int32)), (.ref c_422)])) rfl rfl (hb hby at_186) _ ?_
    refine XS.iconst X428.here hx rfl (hb hby at_187) ?_
    refine XS.ixor X428.here hx rfl (hb hby at_188) rfl ?_
    refine XS.i2b X428.here hx rfl (hb hby at_189) rfl ?_
    refine st432 _ ?_
    show Steps p.tables e below (T432.setTop (mkF m 191 #[.val (.int p0), .val (.int p1), .val (.int p2), .val (.int p3), .val (.ref b_398), .val (.int vm_), .val (.ref b_400), .val (.int (3 : Int32)), .val (.ref b402), .val (.ref b_413), .val (.ref c_422), .val (.int (1 : Int32)), .unset, .unset, .unset, .unset, .unset, .unset, .unset, .unset] [])) _
    refine XS.aload X432.here hx rfl (hb hby at_191) rfl rfl ?_
    refine st434.trans ?_
    show Steps p.tables e below (T434.setTop (mkF m 196 #[.val (.int p0), .val (.int p1), .val (.int p2), .val (.int p3), .val (.ref b_398), .val (.int vm_), .val (.ref b_400), .val (.int (3 : Int32)), .val (.ref b402), .val (.ref b_413), .val (.ref c_422), .val (.int (1 : Int32)), .unset, .unset, .unset, .unset, .unset, .unset, .unset, .unset] [(.ref c_434)])) _
    refine XS.astore X434.here hx rfl (hb hby at_196) rfl rfl (l' := #[.val (.int p0), .val (.int p1), .val (.int p2), .val (.int p3), .val (.ref b_398), .val (.int vm_), .val (.ref b_400), .val (.int (3 : Int32)), .val (.ref b402), .val (.ref b_413), .val (.ref c_422), .val (.int (1 : Int32)), .val (.ref c_434), .unset, .unset, .unset, .unset, .unset, .unset, .unset]) rfl ?_
    refine XS.aload X434.here hx rfl (hb hby at_198) rfl rfl ?_
    refine XS.iload X434.here hx rfl (hb hby at_200) rfl ?_
    refine XS.iloadN X434.here hx rfl (hb hby at_202) rfl ?_
    refine st440 _ ?_
    show Steps p.tables e below (T440.setTop (mkF m 206 #[.val (.int p0), .val (.int p1), .val (.int p2), .val (.int p3), .val (.ref b_398), .val (.int vm_), .val (.ref b_400), .val (.int (3 : Int32)), .val (.ref b402), .val (.ref b_413), .val (.ref c_422), .val (.int (1 : Int32)), .val (.ref c_434), .unset, .unset, .unset, .unset, .unset, .unset, .unset] [(.int (1 : Int32))])) _
    refine XS.istore X440.here hx rfl (hb hby at_206) rfl (l' := #[.val (.int p0), .val (.int p1), .val (.int p2), .val (.int p3), .val (.ref b_398), .val (.int vm_), .val (.ref b_400), .val (.int (3 : Int32)), .val (.ref b402), .val (.ref b_413), .val (.ref c_422), .val (.int (1 : Int32)), .val (.ref c_434), .val (.int (1 : Int32)), .unset, .unset, .unset, .unset, .unset, .unset]) rfl ?_
    refine XS.aload X440.here hx rfl (hb hby at_208) rfl rfl ?_
    refine st441.trans ?_
    show Steps p.tables e below (T441.setTop (mkF m 213 #[.val (.int p0), .val (.int p1), .val (.int p2), .val (.int p3), .val (.ref b_398), .val (.int vm_), .val (.ref b_400), .val (.int (3 : Int32)), .val (.ref b402), .val (.ref b_413), .val (.ref c_422), .val (.int (1 : Int32)), .val (.ref c_434), .val (.int (1 : Int32)), .unset, .unset, .unset, .unset, .unset, .unset] [(.ref b_398)])) _
    refine XS.astore X441.here hx rfl (hb hby at_213) rfl rfl (l' := #[.val (.int p0), .val (.int p1), .val (.int p2), .val (.int p3), .val (.ref b_398), .val (.int vm_), .val (.ref b_400), .val (.int (3 : Int32)), .val (.ref b402), .val (.ref b_413), .val (.ref c_422), .val (.int (1 : Int32)), .val (.ref c_434), .val (.int (1 : Int32)), .val (.ref b_398), .unset, .unset, .unset, .unset, .unset]) rfl ?_
    refine XS.aload X441.here hx rfl (hb hby at_215) rfl rfl ?_
    refine XS.aload X441.here hx rfl (hb hby at_217) rfl rfl ?_
    refine st444.trans ?_
    show Steps p.tables e below (T444.setTop (mkF m 222 #[.val (.int p0), .val (.int p1), .val (.int p2), .val (.int p3), .val (.ref b_398), .val (.int vm_), .val (.ref b_400), .val (.int (3 : Int32)), .val (.ref b402), .val (.ref b_413), .val (.ref c_422), .val (.int (1 : Int32)), .val (.ref c_434), .val (.int (1 : Int32)), .val (.ref b_398), .unset, .unset, .unset, .unset, .unset] [(.int (1 : Int32))])) _
    refine XS.istore X444.here hx rfl (hb hby at_222) rfl (l' := #[.val (.int p0), .val (.int p1), .val (.int p2), .val (.int p3), .val (.ref b_398), .val (.int vm_), .val (.ref b_400), .val (.int (3 : Int32)), .val (.ref b402), .val (.ref b_413), .val (.ref c_422), .val (.int (1 : Int32)), .val (.ref c_434), .val (.int (1 : Int32)), .val (.ref b_398), .val (.int (1 : Int32)), .unset, .unset, .unset, .unset]) rfl ?_
    refine XS.aload X444.here hx rfl (hb hby at_224) rfl rfl ?_
    refine st446.trans ?_
    show Steps p.tables e below (T446.setTop (mkF m 229 #[.val (.int p0), .val (.int p1), .val (.int p2), .val (.int p3), .val (.ref b_398), .val (.int vm_), .val (.ref b_400), .val (.int (3 : Int32)), .val (.ref b402), .val (.ref b_413), .val (.ref c_422), .val (.int (1 : Int32)), .val (.ref c_434), .val (.int (1 : Int32)), .val (.ref b_398), .val (.int (1 : Int32)), .unset, .unset, .unset, .unset] [(.ref b_400)])) _
    refine XS.astore X446.here hx rfl (hb hby at_229) rfl rfl (l' := #[.val (.int p0), .val (.int p1), .val (.int p2), .val (.int p3), .val (.ref b_398), .val (.int vm_), .val (.ref b_400), .val (.int (3 : Int32)), .val (.ref b402), .val (.ref b_413), .val (.ref c_422), .val (.int (1 : Int32)), .val (.ref c_434), .val (.int (1 : Int32)), .val (.ref b_398), .val (.int (1 : Int32)), .val (.ref b_400), .unset, .unset, .unset]) rfl ?_
    refine XS.aload X446.here hx rfl (hb hby at_231) rfl rfl ?_
    refine XS.ifnonnullYes X446.here hx rfl (pc0 := 233) (pc' := 249) rfl (hb hby at_233) rfl (by decide) (by decide) ?_
    refine XS.aload X446.here hx rfl (hb hby at_249) rfl rfl ?_
    refine XS.aload X446.here hx rfl (hb hby at_251) rfl rfl ?_
    refine st448.trans ?_
    show Steps p.tables e below (T448.setTop (mkF m 256 #[.val (.int p0), .val (.int p1), .val (.int p2), .val (.int p3), .val (.ref b_398), .val (.int vm_), .val (.ref b_400), .val (.int (3 : Int32)), .val (.ref b402), .val (.ref b_413), .val (.ref c_422), .val (.int (1 : Int32)), .val (.ref c_434), .val (.int (1 : Int32)), .val (.ref b_398), .val (.int (1 : Int32)), .val (.ref b_400), .unset, .unset, .unset] [(.int (1 : Int32))])) _
    refine XS.istore X448.here hx rfl (hb hby at_256) rfl (l' := #[.val (.int p0), .val (.int p1), .val (.int p2), .val (.int p3), .val (.ref b_398), .val (.int vm_), .val (.ref b_400), .val (.int (3 : Int32)), .val (.ref b402), .val (.ref b_413), .val (.ref c_422), .val (.int (1 : Int32)), .val (.ref c_434), .val (.int (1 : Int32)), .val (.ref b_398), .val (.int (1 : Int32)), .val (.ref b_400), .val (.int (1 : Int32)), .unset, .unset]) rfl ?_
    refine XS.aload X448.here hx rfl (hb hby at_258) rfl rfl ?_
    refine st450.trans ?_
    show Steps p.tables e below (T450.setTop (mkF m 263 #[.val (.int p0), .val (.int p1), .val (.int p2), .val (.int p3), .val (.ref b_398), .val (.int vm_), .val (.ref b_400), .val (.int (3 : Int32)), .val (.ref b402), .val (.ref b_413), .val (.ref c_422), .val (.int (1 : Int32)), .val (.ref c_434), .val (.int (1 : Int32)), .val (.ref b_398), .val (.int (1 : Int32)), .val (.ref b_400), .val (.int (1 : Int32)), .unset, .unset] [(.int (0 : Int32))])) _
    refine XS.ifNo X450.here hx rfl (hb hby at_263) rfl ((if0 _ _).trans (teq (by decide : (0 : Int32) = (0 : Int32))).2) ?_
    refine XS.iconst X450.here hx rfl (hb hby at_266) ?_
    refine XS.goto X450.here hx rfl (pc0 := 267) (pc' := 271) rfl (hb hby at_267) (by decide) (by decide) ?_
    refine XS.istore X450.here hx rfl (hb hby at_271) rfl (l' := #[.val (.int p0), .val (.int p1), .val (.int p2), .val (.int p3), .val (.ref b_398), .val (.int vm_), .val (.ref b_400), .val (.int (3 : Int32)), .val (.ref b402), .val (.ref b_413), .val (.ref c_422), .val (.int (1 : Int32)), .val (.ref c_434), .val (.int (1 : Int32)), .val (.ref b_398), .val (.int (1 : Int32)), .val (.ref b_400), .val (.int (1 : Int32)), .val (.int (1 : Int32)), .unset]) rfl ?_
    refine XS.aload X450.here hx rfl (hb hby at_273) rfl rfl ?_
    refine st452.trans ?_
    show Steps p.tables e below (T452.setTop (mkF m 278 #[.val (.int p0), .val (.int p1), .val (.int p2), .val (.int p3), .val (.ref b_398), .val (.int vm_), .val (.ref b_400), .val (.int (3 : Int32)), .val (.ref b402), .val (.ref b_413), .val (.ref c_422), .val (.int (1 : Int32)), .val (.ref c_434), .val (.int (1 : Int32)), .val (.ref b_398), .val (.int (1 : Int32)), .val (.ref b_400), .val (.int (1 : Int32)), .val (.int (1 : Int32)), .unset] [.null])) _
    refine XS.ifnonnullNo X452.here hx rfl (hb hby at_278) rfl ?_
    refine XS.iconst X452.here hx rfl (hb hby at_281) ?_
    refine XS.goto X452.here hx rfl (pc0 := 282) (pc' := 286) rfl (hb hby at_282) (by decide) (by decide) ?_
    refine XS.istore X452.here hx rfl (hb hby at_286) rfl (l' := #[.val (.int p0), .val (.int p1), .val (.int p2), .val (.int p3), .val (.ref b_398), .val (.int vm_), .val (.ref b_400), .val (.int (3 : Int32)), .val (.ref b402), .val (.ref b_413), .val (.ref c_422), .val (.int (1 : Int32)), .val (.ref c_434), .val (.int (1 : Int32)), .val (.ref b_398), .val (.int (1 : Int32)), .val (.ref b_400), .val (.int (1 : Int32)), .val (.int (1 : Int32)), .val (.int (1 : Int32))]) rfl ?_
    refine XS.iload X452.here hx rfl (hb hby at_288) rfl ?_
    refine XS.ifNo X452.here hx rfl (hb hby at_290) rfl ((if0 _ _).trans (feq (by decide : ¬ ((1 : Int32) = (0 : Int32)))).1) ?_
    refine XS.iload X452.here hx rfl (hb hby at_293) rfl ?_
    refine XS.ifNo X452.here hx rfl (hb hby at_295) rfl ((if0 _ _).trans (feq (by decide : ¬ ((1 : Int32) = (0 : Int32)))).1) ?_
    show Steps p.tables e below (T452.setTop (mkF m 298 #[.val (.int p0), .val (.int p1), .val (.int p2), .val (.int p3), .val (.ref b_398), .val (.int vm_), .val (.ref b_400), .val (.int (3 : Int32)), .val (.ref b402), .val (.ref b_413), .val (.ref c_422), .val (.int (1 : Int32)), .val (.ref c_434), .val (.int (1 : Int32)), .val (.ref b_398), .val (.int (1 : Int32)), .val (.ref b_400), .val (.int (1 : Int32)), .val (.int (1 : Int32)), .val (.int (1 : Int32))] [])) _
    refine XS.iload X452.here hx rfl (hb hby at_298) rfl ?_
    refine XS.ifNo X452.here hx rfl (hb hby at_300) rfl ((if0 _ _).trans (feq (by decide : ¬ ((1 : Int32) = (0 : Int32)))).1) ?_
    refine XS.iload X452.here hx rfl (hb hby at_303) rfl ?_
    refine XS.ifNo X452.here hx rfl (hb hby at_305) rfl ((if0 _ _).trans (feq (by decide : ¬ ((1 : Int32) = (0 : Int32)))).1) ?_
    refine XS.iload X452.here hx rfl (hb hby at_308) rfl ?_
    refine XS.ifNo X452.here hx rfl (hb hby at_310) rfl ((if0 _ _).trans (feq (by decide : ¬ ((1 : Int32) = (0 : Int32)))).1) ?_
    refine XS.iload X452.here hx rfl (hb hby at_313) rfl ?_
    refine XS.ifNo X452.here hx rfl (hb hby at_315) rfl ((if0 _ _).trans (feq (by decide : ¬ ((1 : Int32) = (0 : Int32)))).1) ?_
    show Steps p.tables e below (T452.setTop (mkF m 318 #[.val (.int p0), .val (.int p1), .val (.int p2), .val (.int p3), .val (.ref b_398), .val (.int vm_), .val (.ref b_400), .val (.int (3 : Int32)), .val (.ref b402), .val (.ref b_413), .val (.ref c_422), .val (.int (1 : Int32)), .val (.ref c_434), .val (.int (1 : Int32)), .val (.ref b_398), .val (.int (1 : Int32)), .val (.ref b_400), .val (.int (1 : Int32)), .val (.int (1 : Int32)), .val (.int (1 : Int32))] [])) _
    refine XS.iconst X452.here hx rfl (hb hby at_318) ?_
    refine XS.goto X452.here hx rfl (pc0 := 319) (pc' := 323) rfl (hb hby at_319) (by decide) (by decide) ?_
    exact retN X452 hx (t := .boolean) Bd.returns (by simp) (hb hby at_323) hr
  · show Q0 Z G1 p0 p1 p2 p3 h0 n0 _ T452.heap _
    rw [eq452]
    exact ⟨rfl, N452, K0_439⟩
  · show CHr Z own_EL s.vm s.heap T452.vm T452.heap
    rw [hh, eq452]
    exact hFin
set_option maxRecDepth 65536 in
set_option maxHeartbeats 40000000 in
theorem rm0_3f (l : Launch) (Z : State) (a0 : Array Value) (G1 : Int32) (hG : Glob Z a0 G1) (ws : List Jvm.Cond) (p0 : Int32) (p1 : Int32) (p2 : Int32) (p3 : Int32) (h0 : Heap) (n0 : Nat) (Z0 : n0 ≤ h0.size) (X00 : Old Z n0 h0) (hn : ((((p3.toUInt32 >>> ((5 : Int32) &&& 31).toUInt32).toInt32) &&& (7 : Int32)) % (5 : Int32)) = (3 : Int32)) (hm : (((p3.toUInt32 >>> ((2 : Int32) &&& 31).toUInt32).toInt32) &&& (7 : Int32)) = (0 : Int32)) :
    MetFree l x (head1 (Jvm.Cond.code x code maxLocals ret :: ws) room_1) (fun a U => a = #[(.int p0), (.int p1), (.int p2), (.int p3)] ∧ Z.Warmed39 U.vm ∧ U.heap = h0 ∧ CHv Z own_EL U.vm h0) (fun _ _ _ _ _ => True) (fun _ U o U' => ∃ v L, o = .returned v ∧ Q0 Z G1 p0 p1 p2 p3 h0 n0 v U'.heap L ∧ CHr Z own_EL U.vm U.heap U'.vm U'.heap ∧ ReturnedEndW U o U' L room_1.cells room_1.slots) := by
  obtain ⟨hw, O_cs, P_cs⟩ := id hG
  have W : ∀ (i : Nat) {d : Jvm.Cond}, tables_1[i]? = some d → d.before a0 Z = true := fun i d h => hw d (List.mem_of_getElem? h)
  refine MetFree.of_bodySF (plainFor_of_name pn_com_example_larkbridge_larkbridge_mcp_McpResourceContentsBinaryPinLaw) hisR ?_
  intro p e s m args below meth c s₁ Bd hml0 hP hK
  obtain ⟨rfl, hZ, hh, hCH⟩ := hP
  have hx := Bd.exec
  have hby := Bd.bytes
  have hml : c.maxLocals = 20 := hml0
  have hown : s.vm.findClass "com/example/larkbridge/larkbridge/mcp/McpResourceContentsBinaryPinLaw" = some m.cls := findClass_of_methodNamed Bd.named
  have hnm := (name_of_methodNamed Bd.named Bd.method).1
  have X0 : Stand p l e room_1 (s.setVm s.vm) m #[(.int p0), (.int p1), (.int p2), (.int p3)] below meth c s₁ [] 0 0 := Stand.of_body Bd
  have e0 : s₁.heap = h0 := by rw [← hh, Bd.state]; rfl
  have hS0 : s.Since s.vm h0.size := (State.WarmedH.refl s).since _
  have hk0 : h0.size ≤ h0.size := Nat.le_refl _
  have R0 : CHr Z own_EL s.vm h0 s.vm h0 := CHr.refl hCH
  have hEL := own_ew hw
  have N0 := Fr.nil n0
  have pre0 : ∀ t, Steps p.tables e below (s₁.setTop (mkF m 0 #[.val (.int p0), .val (.int p1), .val (.int p2), .val (.int p3), .unset, .unset, .unset, .unset, .unset, .unset, .unset, .unset, .unset, .unset, .unset, .unset, .unset, .unset, .unset, .unset] [])) t → Steps p.tables e below (s₁.setTop (entryFrame m #[(.int p0), (.int p1), (.int p2), (.int p3)] maxLocals)) t := fun t kk_ => castTop (ef_code_IIII m p0 p1 p2 p3) kk_
  -- pc 4: com/example/larkbridge/larkbridge/mcp/McpResourceContentsBinaryPinLaw.str
  obtain ⟨_, _, ⟨T453, L453, k453, n453⟩, -, X453, hS453, hG453, ⟨Lc453, hQ453, l453, y453, z453, hC453⟩, st453⟩ := callSS X0 hx (y := y3) hown (mvT hZ (W 0 rfl)) (mvT hZ (W 1 rfl)) (mvT hZ (W 2 rfl)) (mvT hZ (W 3 rfl)) (by decide) (backOfSH (s := s) (W := 0) (rmstr l Z a0 G1 hG [] p0 (p3 &&& (3 : Int32)) h0 n0 Z0 X00) hZ (W 3 rfl) (W 2 rfl) (by decide) (by decide) hEL R0.1) (g := (mkF m 4 #[.val (.int p0), .val (.int p1), .val (.int p2), .val (.int p3), .unset, .unset, .unset, .unset, .unset, .unset, .unset, .unset, .unset, .unset, .unset, .unset, .unset, .unset, .unset, .unset] [(.int (p3 &&& (3 : Int32))), (.int p0)])) rfl (by rw [hml]; rfl) (argsL := [(.int p0), (.int (p3 &&& (3 : Int32)))]) (rest := []) (lenOf pd__II_Ljava_lang_String_ rfl) rfl (by show 2 * 0 + _ ≤ _; exact Nat.le_of_eq rfl) (hb hby at_4) (fun _ _ => ⟨rfl, e0, (by decide : 0 + 6 ≤ _), (by decide : 0 + 12 ≤ _)⟩)
  dsimp only [Pt.U, Pt.locs, Pt.cells, Pt.slots] at X453 l453 y453 z453 st453 hQ453 hS453 hG453 hC453
  subst l453 y453 z453
  have hZ453 : Z.Warmed39 T453.vm := State.Warmed39.trans (t := s.setVm s.vm) hZ hS453.1
  have hw453 : T453.vm.findClass "com/example/larkbridge/larkbridge/mcp/McpResourceContentsBinaryPinLaw" = some m.cls := by rw [hS453.1.alike.findClass]; exact hown
  have hSn453 : s.Since T453.vm T453.heap.size := hS0.trans hS453 (Nat.le_trans hk0 (by have q := hG453; rw [e0] at q; exact q))
  have X453 : Stand p l e _ (s.setVm T453.vm) m _ below meth c T453 _ _ _ := X453
  obtain ⟨b_453, rfl, N453q, K453, f453_0, f453_1⟩ := hQ453
  have N453 := Fr.app N0 N453q
  have Z454 : n0 ≤ T453.heap.size := Nat.le_trans Z0 K453.1
  have K0_454 : Keep h0 T453.heap [] := (Keep.refl h0 []).trans K453 all0
  have O454 : Old Z n0 T453.heap := X00.keep K453 all0
  have hkw453 : T453.heap.size ≤ T453.heap.size := Nat.le_refl _
  have Rb453 : CHr Z own_EL s.vm h0 T453.vm T453.heap := R0.trans hC453
  have lo_b_453 : h0.size ≤ b_453 := f453_0
  have g_b_453 : n0 ≤ b_453 := Nat.le_trans Z0 lo_b_453
  have l0_b_453 : h0.size ≤ b_453 := Nat.le_trans (Keep.refl h0 []).1 lo_b_453
  obtain ⟨vm_, hvm⟩ : ∃ z : Int32, z = (((p3.toUInt32 >>> ((2 : Int32) &&& 31).toUInt32).toInt32) &&& (7 : Int32)) := ⟨_, rfl⟩
  obtain ⟨T455, h455, k455, X455, e455, E455, A455, Q455, st455⟩ := newPE X453 hx hZ453 (W 23 rfl) rfl (g := (mkF m 48 #[.val (.int p0), .val (.int p1), .val (.int p2), .val (.int p3), .val (.ref b_453), .val (.int vm_), .val .null, .val (.int (3 : Int32)), .unset, .unset, .unset, .unset, .unset, .unset, .unset, .unset, .unset, .unset, .unset, .unset] [(.int (3 : Int32))])) rfl (hb hby at_48) rfl (by decide) (cap := 3) (by decide) (by decide) (by decide) (by decide) (ad := "[B") rfl
  obtain ⟨b455, g455⟩ : ∃ z, z = T453.heap.size := ⟨_, rfl⟩
  rw [← g455] at A455 Q455 st455
  have Z456 : n0 ≤ h455.size := Nat.le_trans Z454 E455.1
  have K0_456 : Keep h0 h455 [] := K0_454.ext E455
  have O456 : Old Z n0 h455 := O454.ext E455
  have R456 : CHr Z own_EL s.vm h0 T453.vm h455 := Rb453.trans (CHr.ext E455 Rb453.1)
  have hk456 : T453.heap.size ≤ h455.size := Nat.le_trans hkw453 E455.1
  have lo_b455 : T453.heap.size ≤ b455 := Nat.le_of_eq g455.symm
  have g_b455 : n0 ≤ b455 := Nat.le_trans Z454 lo_b455
  have l0_b455 : h0.size ≤ b455 := Nat.le_trans K0_454.1 lo_b455
  have sfb455 : Safe Z own_EL T453.vm h455 b455 := Safe.ext E455 Rb453.1 (Safe.new lo_b455)
  have V_b455 : Arv Z h455 b455 k455 .byte (3 : Int32) [(.int (0 : Int32)), (.int (0 : Int32)), (.int (0 : Int32))] (.int (0 : Int32)) := (Arv.new A455 (by decide)).pad (pad_rep [] (.int (0 : Int32)) 3)
  obtain ⟨clq457, Arq457, qaq457, Sq457, Nq457, Hq457, Gq457⟩ := id V_b455
  have hinq457 : ¬ ((0 : Int32) < 0 ∨ clq457.slots.size ≤ ((0 : Int32)).toNatClampNeg) := inb_of Sq457 ⟨by decide, by decide⟩
  obtain ⟨T458, h458, X458, e458, W458, st458⟩ := stB X455 hx hZ453 e455 Arq457 (j := (0 : Int32)) hinq457 (g := (mkF m 62 #[.val (.int p0), .val (.int p1), .val (.int p2), .val (.int p3), .val (.ref b_453), .val (.int vm_), .val .null, .val (.int (3 : Int32)), .val (.ref b455), .unset, .unset, .unset, .unset, .unset, .unset, .unset, .unset, .unset, .unset, .unset] [(.int (p2.toInt8.toInt32)), (.int (0 : Int32)), (.ref b455)])) rfl rfl (hb hby at_62)
  have V458 : Arv Z h458 b455 k455 .byte (3 : Int32) [(.int ((p2.toInt8.toInt32).toInt8.toInt32)), (.int (0 : Int32)), (.int (0 : Int32))] (.int (0 : Int32)) := Arv.set Arq457 qaq457 Sq457 Nq457 Hq457 Gq457 (fits_nar_byte _) W458 0 rfl (Nat.le_of_ble_eq_true rfl)
  have Z459 : n0 ≤ h458.size := Nat.le_trans Z456 (Keep.of_wr W458).1
  have K0_459 : Keep h0 h458 [] := K0_456.wr W458 (Or.inr l0_b455)
  have O459 : Old Z n0 h458 := O456.wr W458 g_b455
  have R459 : CHr Z own_EL s.vm h0 T453.vm h458 := R456.trans (CHr.wr W458 sfb455 R456.1)
  have hk459 : T453.heap.size ≤ h458.size := Nat.le_trans hk456 (Keep.of_wr W458).1
  have sf459_b455 : Safe Z own_EL T453.vm h458 b455 := Safe.wr W458 sfb455 R456.1 sfb455
  have N458 := Fr.snoc X458 N453 g_b455
  obtain ⟨clq460, Arq460, qaq460, Sq460, Nq460, Hq460, Gq460⟩ := id V458
  have hinq460 : ¬ ((1 : Int32) < 0 ∨ clq460.slots.size ≤ ((1 : Int32)).toNatClampNeg) := inb_of Sq460 ⟨by decide, by decide⟩
  obtain ⟨T461, h461, X461, e461, W461, st461⟩ := stB X458 hx hZ453 e458 Arq460 (j := (1 : Int32)) hinq460 (g := (mkF m 77 #[.val (.int p0), .val (.int p1), .val (.int p2), .val (.int p3), .val (.ref b_453), .val (.int vm_), .val .null, .val (.int (3 : Int32)), .val (.ref b455), .unset, .unset, .unset, .unset, .unset, .unset, .unset, .unset, .unset, .unset, .unset] [(.int (((p2.toUInt32 >>> ((8 : Int32) &&& 31).toUInt32).toInt32).toInt8.toInt32)), (.int (1 : Int32)), (.ref b455)])) rfl rfl (hb hby at_77)
  have V461 : Arv Z h461 b455 k455 .byte (3 : Int32) [(.int ((p2.toInt8.toInt32).toInt8.toInt32)), (.int ((((p2.toUInt32 >>> ((8 : Int32) &&& 31).toUInt32).toInt32).toInt8.toInt32).toInt8.toInt32)), (.int (0 : Int32))] (.int (0 : Int32)) := Arv.set Arq460 qaq460 Sq460 Nq460 Hq460 Gq460 (fits_nar_byte _) W461 1 rfl (Nat.le_of_ble_eq_true rfl)
  have Z462 : n0 ≤ h461.size := Nat.le_trans Z459 (Keep.of_wr W461).1
  have K0_462 : Keep h0 h461 [] := K0_459.wr W461 (Or.inr l0_b455)
  have O462 : Old Z n0 h461 := O459.wr W461 g_b455
  have R462 : CHr Z own_EL s.vm h0 T453.vm h461 := R459.trans (CHr.wr W461 sf459_b455 R459.1)
  have hk462 : T453.heap.size ≤ h461.size := Nat.le_trans hk459 (Keep.of_wr W461).1
  have sf462_b455 : Safe Z own_EL T453.vm h461 b455 := Safe.wr W461 sf459_b455 R459.1 sf459_b455
  have N461 := Fr.snoc X461 N458 g_b455
  obtain ⟨clq463, Arq463, qaq463, Sq463, Nq463, Hq463, Gq463⟩ := id V461
  have hinq463 : ¬ ((2 : Int32) < 0 ∨ clq463.slots.size ≤ ((2 : Int32)).toNatClampNeg) := inb_of Sq463 ⟨by decide, by decide⟩
  obtain ⟨T464, h464, X464, e464, W464, st464⟩ := stB X461 hx hZ453 e461 Arq463 (j := (2 : Int32)) hinq463 (g := (mkF m 92 #[.val (.int p0), .val (.int p1), .val (.int p2), .val (.int p3), .val (.ref b_453), .val (.int vm_), .val .null, .val (.int (3 : Int32)), .val (.ref b455), .unset, .unset, .unset, .unset, .unset, .unset, .unset, .unset, .unset, .unset, .unset] [(.int (((p2.toUInt32 >>> ((16 : Int32) &&& 31).toUInt32).toInt32).toInt8.toInt32)), (.int (2 : Int32)), (.ref b455)])) rfl rfl (hb hby at_92)
  have V464 : Arv Z h464 b455 k455 .byte (3 : Int32) [(.int ((p2.toInt8.toInt32).toInt8.toInt32)), (.int ((((p2.toUInt32 >>> ((8 : Int32) &&& 31).toUInt32).toInt32).toInt8.toInt32).toInt8.toInt32)), (.int ((((p2.toUInt32 >>> ((16 : Int32) &&& 31).toUInt32).toInt32).toInt8.toInt32).toInt8.toInt32))] (.int (0 : Int32)) := Arv.set Arq463 qaq463 Sq463 Nq463 Hq463 Gq463 (fits_nar_byte _) W464 2 rfl (Nat.le_of_ble_eq_true rfl)
  have Z465 : n0 ≤ h464.size := Nat.le_trans Z462 (Keep.of_wr W464).1
  have K0_465 : Keep h0 h464 [] := K0_462.wr W464 (Or.inr l0_b455)
  have O465 : Old Z n0 h464 := O462.wr W464 g_b455
  have R465 : CHr Z own_EL s.vm h0 T453.vm h464 := R462.trans (CHr.wr W464 sf462_b455 R462.1)
  have hk465 : T453.heap.size ≤ h464.size := Nat.le_trans hk462 (Keep.of_wr W464).1
  have sf465_b455 : Safe Z own_EL T453.vm h464 b455 := Safe.wr W464 sf462_b455 R462.1 sf462_b455
  have N464 := Fr.snoc X464 N461 g_b455
  have f467 := ((((f453_1.ext E455).wr W458).wr W461).wr W464)
  have f468 := (((Q455.wr W458).wr W461).wr W464)
  -- pc 114: com/example/larkbridge/larkbridge/mcp/McpResourceContents.binary
  obtain ⟨_, _, ⟨T466, L466, k466, n466⟩, -, X466, hS466, hG466, ⟨Lc466, hQ466, l466, y466, z466, hC466⟩, st466⟩ := callSS X464 hx (y := y5) hw453 (mvT hZ453 (W 34 rfl)) (mvT hZ453 (W 35 rfl)) (mvT hZ453 (W 36 rfl)) (mvT hZ453 (W 37 rfl)) (by decide) (backOfSH (s := s) (W := 0) (rmmcb l Z a0 G1 hG [] b_453 .null b455 k455 (3 : Int32) ([(.int ((p2.toInt8.toInt32).toInt8.toInt32)), (.int ((((p2.toUInt32 >>> ((8 : Int32) &&& 31).toUInt32).toInt32).toInt8.toInt32).toInt8.toInt32)), (.int ((((p2.toUInt32 >>> ((16 : Int32) &&& 31).toUInt32).toInt32).toInt8.toInt32).toInt8.toInt32))] : List Value) h464 n0 Z465 O465 f467 f468 V464 rfl (by decide)) hZ453 (W 37 rfl) (W 36 rfl) (by decide) (by decide) hEL R465.1) (g := (mkF m 114 #[.val (.int p0), .val (.int p1), .val (.int p2), .val (.int p3), .val (.ref b_453), .val (.int vm_), .val .null, .val (.int (3 : Int32)), .val (.ref b455), .unset, .unset, .unset, .unset, .unset, .unset, .unset, .unset, .unset, .unset, .unset] [(.ref b455), .null, (.ref b_453)])) rfl (by rw [hml]; rfl) (argsL := [(.ref b_453), .null, (.ref b455)]) (rest := []) (lenOf pd__Ljava_lang_String_Ljava_lang_String__B_Lcom_example_larkbridge_larkbridge_mcp_McpResourceContents_ rfl) rfl (by show 2 * 0 + _ ≤ _; exact Nat.le_of_eq rfl) (hb hby at_114) (fun _ _ => ⟨rfl, e464, (by decide : 7 + 4 ≤ _), (by decide : 15 + 24 ≤ _)⟩)
  dsimp only [Pt.U, Pt.locs, Pt.cells, Pt.slots] at X466 l466 y466 z466 st466 hQ466 hS466 hG466 hC466
  subst l466 y466 z466
  have hZ466 : Z.Warmed39 T466.vm := State.Warmed39.trans (t := s.setVm T453.vm) hZ453 hS466.1
  have hw466 : T466.vm.findClass "com/example/larkbridge/larkbridge/mcp/McpResourceContentsBinaryPinLaw" = some m.cls := by rw [hS466.1.alike.findClass]; exact hw453
  have hSn466 : s.Since T466.vm T466.heap.size := hSn453.trans hS466 (Nat.le_trans hk465 (by have q := hG466; rw [e464] at q; exact q))
  have X466 : Stand p l e _ (s.setVm T466.vm) m _ below meth c T466 _ _ _ := X466
  obtain ⟨b_466, c_466, rfl, N466q, K466, f466_0, f466_1, f466_2, f466_3, f466_4, f466_5, f466_6, f466_7, f466_8⟩ := hQ466
  have N466 := Fr.app N464 N466q
  have Z469 : n0 ≤ T466.heap.size := Nat.le_trans Z465 K466.1
  have K0_469 : Keep h0 T466.heap [] := K0_465.trans K466 all0
  have O469 : Old Z n0 T466.heap := O465.keep K466 all0
  have hkw466 : T466.heap.size ≤ T466.heap.size := Nat.le_refl _
  have sfw469_b455 : Safe Z own_EL T466.vm T466.heap b455 := hC466.safe f468.lt sf465_b455
  have Rb466 : CHr Z own_EL s.vm h0 T466.vm T466.heap := R465.trans hC466
  have lo_b_466 : h464.size ≤ b_466 := f466_0
  have g_b_466 : n0 ≤ b_466 := Nat.le_trans Z465 lo_b_466
  have l0_b_466 : h0.size ≤ b_466 := Nat.le_trans K0_465.1 lo_b_466
  have lo_c_466 : h464.size ≤ c_466 := f466_1
  have g_c_466 : n0 ≤ c_466 := Nat.le_trans Z465 lo_c_466
  have l0_c_466 : h0.size ≤ c_466 := Nat.le_trans K0_465.1 lo_c_466
  have f470 := (V464.keep K466 nin0)
  obtain ⟨clq471, Arq471, qaq471, Sq471, Nq471, Hq471, Gq471⟩ := id f470
  have hinq471 : ¬ ((0 : Int32) < 0 ∨ clq471.slots.size ≤ ((0 : Int32)).toNatClampNeg) := inb_of Sq471 ⟨by decide, by decide⟩
  have hatq471 : clq471.slots[((0 : Int32)).toNatClampNeg]? = some (.int ((p2.toInt8.toInt32).toInt8.toInt32)) := Has.at Hq471 hinq471 rfl
  obtain ⟨clq472, Arq472, qaq472, Sq472, Nq472, Hq472, Gq472⟩ := id f470
  have hinq472 : ¬ ((0 : Int32) < 0 ∨ clq472.slots.size ≤ ((0 : Int32)).toNatClampNeg) := inb_of Sq472 ⟨by decide, by decide⟩
  obtain ⟨T473, h473, X473, e473, W473, st473⟩ := stB X466 hx hZ466 rfl Arq472 (j := (0 : Int32)) hinq472 (g := (mkF m 134 #[.val (.int p0), .val (.int p1), .val (.int p2), .val (.int p3), .val (.ref b_453), .val (.int vm_), .val .null, .val (.int (3 : Int32)), .val (.ref b455), .val (.ref b_466), .unset, .unset, .unset, .unset, .unset, .unset, .unset, .unset, .unset, .unset] [(.int ((((p2.toInt8.toInt32).toInt8.toInt32) ^^^ (-1 : Int32)).toInt8.toInt32)), (.int (0 : Int32)), (.ref b455)])) rfl rfl (hb hby at_134)
  have V473 : Arv Z h473 b455 k455 .byte (3 : Int32) [(.int (((((p2.toInt8.toInt32).toInt8.toInt32) ^^^ (-1 : Int32)).toInt8.toInt32).toInt8.toInt32)), (.int ((((p2.toUInt32 >>> ((8 : Int32) &&& 31).toUInt32).toInt32).toInt8.toInt32).toInt8.toInt32)), (.int ((((p2.toUInt32 >>> ((16 : Int32) &&& 31).toUInt32).toInt32).toInt8.toInt32).toInt8.toInt32))] (.int (0 : Int32)) := Arv.set Arq472 qaq472 Sq472 Nq472 Hq472 Gq472 (fits_nar_byte _) W473 0 rfl (Nat.le_of_ble_eq_true rfl)
  have Z474 : n0 ≤ h473.size := Nat.le_trans Z469 (Keep.of_wr W473).1
  have K0_474 : Keep h0 h473 [] := K0_469.wr W473 (Or.inr l0_b455)
  have O474 : Old Z n0 h473 := O469.wr W473 g_b455
  have R474 : CHr Z own_EL s.vm h0 T466.vm h473 := Rb466.trans (CHr.wr W473 sfw469_b455 Rb466.1)
  have hk474 : T466.heap.size ≤ h473.size := Nat.le_trans hkw466 (Keep.of_wr W473).1
  have sf474_b455 : Safe Z own_EL T466.vm h473 b455 := Safe.wr W473 sfw469_b455 Rb466.1 sfw469_b455
  have N473 := Fr.snoc X473 N466 g_b455
  have f476 := (f466_8.other W473 (Or.inl (Ne.symm (Nat.ne_of_lt (Nat.lt_of_lt_of_le f468.lt lo_b_466)))))
  have f477 := (f466_3.wr W473)
  have f478 := (f466_4.other W473 (Ne.symm (Nat.ne_of_lt (Nat.lt_of_lt_of_le f468.lt lo_c_466))))
  have f479 := (f466_2.wr W473)
  obtain ⟨cq475, kq475, q475a, q475b, q475c⟩ := isOf hZ466 e473 f479
  -- pc 154: com/example/larkbridge/larkbridge/mcp/McpResourceContents.bytes
  obtain ⟨_, _, ⟨T475, L475, k475, n475⟩, -, X475, ⟨Lc475, hQ475, l475, y475, z475⟩, st475⟩ := X473.virtualBack hx (y := y6) (z := y6) hw466 (mvT hZ466 (W 69 rfl)) (mvT hZ466 (W 70 rfl)) (notFace_of_selects (args := #[]) (mvT hZ466 (W 72 rfl))) (mvT hZ466 (W 72 rfl)) (mvT hZ466 (W 71 rfl)) (by decide) (backOf (W := 0) (rmbyt l Z a0 G1 hG [] b_466 c_466 k455 (3 : Int32) ([(.int ((p2.toInt8.toInt32).toInt8.toInt32)), (.int ((((p2.toUInt32 >>> ((8 : Int32) &&& 31).toUInt32).toInt32).toInt8.toInt32).toInt8.toInt32)), (.int ((((p2.toUInt32 >>> ((16 : Int32) &&& 31).toUInt32).toInt32).toInt8.toInt32).toInt8.toInt32))] : List Value) h473 n0 Z474 O474 f476 f477 f478 (by decide)) hZ466 (W 73 rfl) (W 36 rfl) (by decide) (by decide)) q475a q475c (g := (mkF m 154 #[.val (.int p0), .val (.int p1), .val (.int p2), .val (.int p3), .val (.ref b_453), .val (.int vm_), .val .null, .val (.int (3 : Int32)), .val (.ref b455), .val (.ref b_466), .unset, .unset, .unset, .unset, .unset, .unset, .unset, .unset, .unset, .unset] [(.ref b_466)])) rfl (by rw [hml]; rfl) (Steps.refl _) (argsL := []) (rest := []) (lenOf pd____B rfl) rfl (by show 2 * 0 + _ ≤ _; exact Nat.le_of_eq rfl) (hb hby at_154) (fun _ _ => ⟨rfl, e473, (by decide : 11 + 1 ≤ _), (by decide : 39 + 4 ≤ _)⟩)
  dsimp only [Pt.U, Pt.locs, Pt.cells, Pt.slots] at X475 l475 y475 z475 st475 hQ475
  subst l475 y475 z475
  obtain ⟨c_475, rfl, N475q, K475, f475_0, f475_1, f475_2⟩ := hQ475
  have N475 := Fr.app N473 N475q
  have Z480 : n0 ≤ T475.heap.size := Nat.le_trans Z474 K475.1
  have K0_480 : Keep h0 T475.heap [] := K0_474.trans K475 all0
  have O480 : Old Z n0 T475.heap := O474.keep K475 all0
  have R480 : CHr Z own_EL s.vm h0 T466.vm T475.heap := R474.trans (CHr.keep K475 sf0 R474.1)
  have hk480 : T466.heap.size ≤ T475.heap.size := Nat.le_trans hk474 K475.1
  have sf480_b455 : Safe Z own_EL T466.vm T475.heap b455 := Safe.keep K475 sf0 R474.1 sf474_b455
  have lo_c_475 : h473.size ≤ c_475 := f475_0
  have g_c_475 : n0 ≤ c_475 := Nat.le_trans Z474 lo_c_475
  have l0_c_475 : h0.size ≤ c_475 := Nat.le_trans K0_474.1 lo_c_475
  have sfc475 : Safe Z own_EL T466.vm T475.heap c_475 := Safe.keep K475 sf0 R474.1 (Safe.new lo_c_475)
  -- pc 164: com/example/larkbridge/larkbridge/mcp/McpResourceContentsBinaryPinLaw.same
  obtain ⟨_, _, ⟨T481, L481, k481, n481⟩, -, X481, ⟨Lc481, hQ481, l481, y481, z481⟩, st481⟩ := Jvm.LawKit.callS X475 hx (y := y12) hw466 (mvT hZ466 (W 74 rfl)) (mvT hZ466 (W 75 rfl)) (mvT hZ466 (W 2 rfl)) (mvT hZ466 (W 76 rfl)) (by decide) (backOf (W := 0) (rmsame3 l Z a0 G1 hG [] c_475 p2 k455 T475.heap n0 Z480 O480 f475_2) hZ466 (W 76 rfl) (W 2 rfl) (by decide) (by decide)) (g := (mkF m 164 #[.val (.int p0), .val (.int p1), .val (.int p2), .val (.int p3), .val (.ref b_453), .val (.int vm_), .val .null, .val (.int (3 : Int32)), .val (.ref b455), .val (.ref b_466), .val (.ref c_475), .unset, .unset, .unset, .unset, .unset, .unset, .unset, .unset, .unset] [(.int p2), (.int (3 : Int32)), (.ref c_475)])) rfl (by rw [hml]; rfl) (argsL := [(.ref c_475), (.int (3 : Int32)), (.int p2)]) (rest := []) (lenOf pd___BII_Z rfl) rfl (by show 2 * 0 + _ ≤ _; exact Nat.le_of_eq rfl) (hb hby at_164) (fun _ _ => ⟨rfl, rfl, (by decide : 12 + 0 ≤ _), (by decide : 43 + 0 ≤ _)⟩)
  dsimp only [Pt.U, Pt.locs, Pt.cells, Pt.slots] at X481 l481 y481 z481 st481 hQ481
  subst l481 y481 z481
  obtain ⟨rfl, N481q, eq481⟩ := hQ481
  have N481 := Fr.app N475 N481q
  obtain ⟨clq482, Arq482, qaq482, Sq482, Nq482, Hq482, Gq482⟩ := id f475_2
  obtain ⟨clq483, Arq483, qaq483, Sq483, Nq483, Hq483, Gq483⟩ := id f475_2
  have hinq483 : ¬ ((0 : Int32) < 0 ∨ clq483.slots.size ≤ ((0 : Int32)).toNatClampNeg) := inb_of Sq483 ⟨by decide, by decide⟩
  have hatq483 : clq483.slots[((0 : Int32)).toNatClampNeg]? = some (.int ((p2.toInt8.toInt32).toInt8.toInt32)) := Has.at Hq483 hinq483 rfl
  obtain ⟨clq484, Arq484, qaq484, Sq484, Nq484, Hq484, Gq484⟩ := id f475_2
  have hinq484 : ¬ ((0 : Int32) < 0 ∨ clq484.slots.size ≤ ((0 : Int32)).toNatClampNeg) := inb_of Sq484 ⟨by decide, by decide⟩
  obtain ⟨T485, h485, X485, e485, W485, st485⟩ := stB X481 hx hZ466 eq481 Arq484 (j := (0 : Int32)) hinq484 (g := (mkF m 190 #[.val (.int p0), .val (.int p1), .val (.int p2), .val (.int p3), .val (.ref b_453), .val (.int vm_), .val .null, .val (.int (3 : Int32)), .val (.ref b455), .val (.ref b_466), .val (.ref c_475), .val (.int (1 : Int32)), .unset, .unset, .unset, .unset, .unset, .unset, .unset, .unset] [(.int ((((p2.toInt8.toInt32).toInt8.toInt32) ^^^ (-1 : Int32)).toInt8.toInt32)), (.int (0 : Int32)), (.ref c_475)])) rfl rfl (hb hby at_190)
  have V485 : Arv Z h485 c_475 k455 .byte (3 : Int32) [(.int (((((p2.toInt8.toInt32).toInt8.toInt32) ^^^ (-1 : Int32)).toInt8.toInt32).toInt8.toInt32)), (.int ((((p2.toUInt32 >>> ((8 : Int32) &&& 31).toUInt32).toInt32).toInt8.toInt32).toInt8.toInt32)), (.int ((((p2.toUInt32 >>> ((16 : Int32) &&& 31).toUInt32).toInt32).toInt8.toInt32).toInt8.toInt32))] (.int (0 : Int32)) := Arv.set Arq484 qaq484 Sq484 Nq484 Hq484 Gq484 (fits_nar_byte _) W485 0 rfl (Nat.le_of_ble_eq_true rfl)
  have Z486 : n0 ≤ h485.size := Nat.le_trans Z480 (Keep.of_wr W485).1
  have K0_486 : Keep h0 h485 [] := K0_480.wr W485 (Or.inr l0_c_475)
  have O486 : Old Z n0 h485 := O480.wr W485 g_c_475
  have R486 : CHr Z own_EL s.vm h0 T466.vm h485 := R480.trans (CHr.wr W485 sfc475 R480.1)
  have hk486 : T466.heap.size ≤ h485.size := Nat.le_trans hk480 (Keep.of_wr W485).1
  have sf486_b455 : Safe Z own_EL T466.vm h485 b455 := Safe.wr W485 sfc475 R480.1 sf480_b455
  have sf486_c_475 : Safe Z own_EL T466.vm h485 c_475 := Safe.wr W485 sfc475 R480.1 sfc475
  have N485 := Fr.snoc X485 N481 g_c_475
  have f488 := ((f476.keep K475 nin0).other W485 (Or.inl (Nat.ne_of_lt (Nat.lt_of_lt_of_le f479.lt lo_c_475))))
  have f489 := ((f477.keep K475).wr W485)
  have f490 := ((f478.keep K475 nin0).other W485 (Nat.ne_of_lt (Nat.lt_of_lt_of_le f477.lt lo_c_475)))
  have f491 := ((f479.keep K475).wr W485)
  obtain ⟨cq487, kq487, q487a, q487b, q487c⟩ := isOf hZ466 e485 f491
  -- pc 193: com/example/larkbridge/larkbridge/mcp/McpResourceContents.bytes
  obtain ⟨_, _, ⟨T487, L487, k487, n487⟩, -, X487, ⟨Lc487, hQ487, l487, y487, z487⟩, st487⟩ := X485.virtualBack hx (y := y6) (z := y6) hw466 (mvT hZ466 (W 69 rfl)) (mvT hZ466 (W 70 rfl)) (notFace_of_selects (args := #[]) (mvT hZ466 (W 72 rfl))) (mvT hZ466 (W 72 rfl)) (mvT hZ466 (W 71 rfl)) (by decide) (backOf (W := 0) (rmbyt l Z a0 G1 hG [] b_466 c_466 k455 (3 : Int32) ([(.int ((p2.toInt8.toInt32).toInt8.toInt32)), (.int ((((p2.toUInt32 >>> ((8 : Int32) &&& 31).toUInt32).toInt32).toInt8.toInt32).toInt8.toInt32)), (.int ((((p2.toUInt32 >>> ((16 : Int32) &&& 31).toUInt32).toInt32).toInt8.toInt32).toInt8.toInt32))] : List Value) h485 n0 Z486 O486 f488 f489 f490 (by decide)) hZ466 (W 73 rfl) (W 36 rfl) (by decide) (by decide)) q487a q487c (g := (mkF m 193 #[.val (.int p0), .val (.int p1), .val (.int p2), .val (.int p3), .val (.ref b_453), .val (.int vm_), .val .null, .val (.int (3 : Int32)), .val (.ref b455), .val (.ref b_466), .val (.ref c_475), .val (.int (1 : Int32)), .unset, .unset, .unset, .unset, .unset, .unset, .unset, .unset] [(.ref b_466)])) rfl (by rw [hml]; rfl) (Steps.refl _) (argsL := []) (rest := []) (lenOf pd____B rfl) rfl (by show 2 * 0 + _ ≤ _; exact Nat.le_of_eq rfl) (hb hby at_193) (fun _ _ => ⟨rfl, e485, (by decide : 12 + 1 ≤ _), (by decide : 43 + 4 ≤ _)⟩)
  dsimp only [Pt.U, Pt.locs, Pt.cells, Pt.slots] at X487 l487 y487 z487 st487 hQ487
  subst l487 y487 z487
  obtain ⟨c_487, rfl, N487q, K487, f487_0, f487_1, f487_2⟩ := hQ487
  have N487 := Fr.app N485 N487q
  have Z492 : n0 ≤ T487.heap.size := Nat.le_trans Z486 K487.1
  have K0_492 : Keep h0 T487.heap [] := K0_486.trans K487 all0
  have O492 : Old Z n0 T487.heap := O486.keep K487 all0
  have R492 : CHr Z own_EL s.vm h0 T466.vm T487.heap := R486.trans (CHr.keep K487 sf0 R486.1)
  have hk492 : T466.heap.size ≤ T487.heap.size := Nat.le_trans hk486 K487.1
  have sf492_b455 : Safe Z own_EL T466.vm T487.heap b455 := Safe.keep K487 sf0 R486.1 sf486_b455
  have sf492_c_475 : Safe Z own_EL T466.vm T487.heap c_475 := Safe.keep K487 sf0 R486.1 sf486_c_475
  have lo_c_487 : h485.size ≤ c_487 := f487_0
  have g_c_487 : n0 ≤ c_487 := Nat.le_trans Z486 lo_c_487
  have l0_c_487 : h0.size ≤ c_487 := Nat.le_trans K0_486.1 lo_c_487
  have sfc487 : Safe Z own_EL T466.vm T487.heap c_487 := Safe.keep K487 sf0 R486.1 (Safe.new lo_c_487)
  -- pc 203: com/example/larkbridge/larkbridge/mcp/McpResourceContentsBinaryPinLaw.same
  obtain ⟨_, _, ⟨T493, L493, k493, n493⟩, -, X493, ⟨Lc493, hQ493, l493, y493, z493⟩, st493⟩ := Jvm.LawKit.callS X487 hx (y := y12) hw466 (mvT hZ466 (W 74 rfl)) (mvT hZ466 (W 75 rfl)) (mvT hZ466 (W 2 rfl)) (mvT hZ466 (W 76 rfl)) (by decide) (backOf (W := 0) (rmsame3 l Z a0 G1 hG [] c_487 p2 k455 T487.heap n0 Z492 O492 f487_2) hZ466 (W 76 rfl) (W 2 rfl) (by decide) (by decide)) (g := (mkF m 203 #[.val (.int p0), .val (.int p1), .val (.int p2), .val (.int p3), .val (.ref b_453), .val (.int vm_), .val .null, .val (.int (3 : Int32)), .val (.ref b455), .val (.ref b_466), .val (.ref c_475), .val (.int (1 : Int32)), .val (.ref c_487), .unset, .unset, .unset, .unset, .unset, .unset, .unset] [(.int p2), (.int (3 : Int32)), (.ref c_487)])) rfl (by rw [hml]; rfl) (argsL := [(.ref c_487), (.int (3 : Int32)), (.int p2)]) (rest := []) (lenOf pd___BII_Z rfl) rfl (by show 2 * 0 + _ ≤ _; exact Nat.le_of_eq rfl) (hb hby at_203) (fun _ _ => ⟨rfl, rfl, (by decide : 13 + 0 ≤ _), (by decide : 47 + 0 ≤ _)⟩)
  dsimp only [Pt.U, Pt.locs, Pt.cells, Pt.slots] at X493 l493 y493 z493 st493 hQ493
  subst l493 y493 z493
  obtain ⟨rfl, N493q, eq493⟩ := hQ493
  have N493 := Fr.app N487 N493q
  have f495 := ((((f466_5.other W473 (Or.inl (Ne.symm (Nat.ne_of_lt (Nat.lt_of_lt_of_le f468.lt lo_b_466))))).keep K475 nin0).other W485 (Or.inl (Nat.ne_of_lt (Nat.lt_of_lt_of_le f479.lt lo_c_475)))).keep K487 nin0)
  have f496 := (f491.keep K487)
  obtain ⟨cq494, kq494, q494a, q494b, q494c⟩ := isOf hZ466 eq493 f496
  -- pc 210: com/example/larkbridge/larkbridge/mcp/McpResourceContents.uri
  obtain ⟨_, _, ⟨T494, L494, k494, n494⟩, -, X494, ⟨Lc494, hQ494, l494, y494, z494⟩, st494⟩ := X493.virtualBack hx (y := y7) (z := y7) hw466 (mvT hZ466 (W 77 rfl)) (mvT hZ466 (W 78 rfl)) (notFace_of_selects (args := #[]) (mvT hZ466 (W 80 rfl))) (mvT hZ466 (W 80 rfl)) (mvT hZ466 (W 79 rfl)) (by decide) (backOf (W := 0) (rmG_McpResourceContents_uri l Z a0 G1 hG [] b_466 (.ref b_453) T487.heap n0 Z492 O492 f495 rfl) hZ466 (W 81 rfl) (W 36 rfl) (by decide) (by decide)) q494a q494c (g := (mkF m 210 #[.val (.int p0), .val (.int p1), .val (.int p2), .val (.int p3), .val (.ref b_453), .val (.int vm_), .val .null, .val (.int (3 : Int32)), .val (.ref b455), .val (.ref b_466), .val (.ref c_475), .val (.int (1 : Int32)), .val (.ref c_487), .val (.int (1 : Int32)), .unset, .unset, .unset, .unset, .unset, .unset] [(.ref b_466)])) rfl (by rw [hml]; rfl) (Steps.refl _) (argsL := []) (rest := []) (lenOf pd___Ljava_lang_String_ rfl) rfl (by show 2 * 0 + _ ≤ _; exact Nat.le_of_eq rfl) (hb hby at_210) (fun _ _ => ⟨rfl, eq493, (by decide : 13 + 0 ≤ _), (by decide : 47 + 0 ≤ _)⟩)
  dsimp only [Pt.U, Pt.locs, Pt.cells, Pt.slots] at X494 l494 y494 z494 st494 hQ494
  subst l494 y494 z494
  obtain ⟨rfl, N494q, eq494⟩ := hQ494
  have N494 := Fr.app N493 N494q
  have f498 := (((((f467.keep K466).wr W473).keep K475).wr W485).keep K487)
  obtain ⟨cq497, kq497, q497a, q497b, q497c⟩ := isOf hZ466 eq494 f498
  -- pc 219: java/lang/String.equals
  obtain ⟨_, _, ⟨T497, L497, k497, n497⟩, -, X497, ⟨Lc497, hQ497, l497, y497, z497⟩, st497⟩ := X494.virtualBack hx (y := y11) (z := y11) hw466 (mvT hZ466 (W 82 rfl)) (mvT hZ466 (W 83 rfl)) (notFace_of_selects (args := #[]) (mvT hZ466 (W 85 rfl))) (mvT hZ466 (W 85 rfl)) (mvT hZ466 (W 84 rfl)) (by decide) (backOf (W := 0) (rmeqs l Z a0 G1 hG [] b_453 T487.heap n0 Z492 O492) hZ466 (W 86 rfl) (W 6 rfl) (by decide) (by decide)) q497a q497c (g := (mkF m 219 #[.val (.int p0), .val (.int p1), .val (.int p2), .val (.int p3), .val (.ref b_453), .val (.int vm_), .val .null, .val (.int (3 : Int32)), .val (.ref b455), .val (.ref b_466), .val (.ref c_475), .val (.int (1 : Int32)), .val (.ref c_487), .val (.int (1 : Int32)), .val (.ref b_453), .unset, .unset, .unset, .unset, .unset] [(.ref b_453), (.ref b_453)])) rfl (by rw [hml]; rfl) (Steps.refl _) (argsL := [(.ref b_453)]) (rest := []) (lenOf pd__Ljava_lang_Object__Z rfl) rfl (by show 2 * 0 + _ ≤ _; exact Nat.le_of_eq rfl) (hb hby at_219) (fun _ _ => ⟨rfl, eq494, (by decide : 13 + 0 ≤ _), (by decide : 47 + 0 ≤ _)⟩)
  dsimp only [Pt.U, Pt.locs, Pt.cells, Pt.slots] at X497 l497 y497 z497 st497 hQ497
  subst l497 y497 z497
  obtain ⟨rfl, N497q, eq497⟩ := hQ497
  have N497 := Fr.app N494 N497q
  have f500 := ((((f466_6.other W473 (Or.inl (Ne.symm (Nat.ne_of_lt (Nat.lt_of_lt_of_le f468.lt lo_b_466))))).keep K475 nin0).other W485 (Or.inl (Nat.ne_of_lt (Nat.lt_of_lt_of_le f479.lt lo_c_475)))).keep K487 nin0)
  obtain ⟨cq499, kq499, q499a, q499b, q499c⟩ := isOf hZ466 eq497 f496
  -- pc 226: com/example/larkbridge/larkbridge/mcp/McpResourceContents.mimeType
  obtain ⟨_, _, ⟨T499, L499, k499, n499⟩, -, X499, ⟨Lc499, hQ499, l499, y499, z499⟩, st499⟩ := X497.virtualBack hx (y := y8) (z := y8) hw466 (mvT hZ466 (W 87 rfl)) (mvT hZ466 (W 88 rfl)) (notFace_of_selects (args := #[]) (mvT hZ466 (W 90 rfl))) (mvT hZ466 (W 90 rfl)) (mvT hZ466 (W 89 rfl)) (by decide) (backOf (W := 0) (rmG_McpResourceContents_mimeType l Z a0 G1 hG [] b_466 .null T487.heap n0 Z492 O492 f500 rfl) hZ466 (W 91 rfl) (W 36 rfl) (by decide) (by decide)) q499a q499c (g := (mkF m 226 #[.val (.int p0), .val (.int p1), .val (.int p2), .val (.int p3), .val (.ref b_453), .val (.int vm_), .val .null, .val (.int (3 : Int32)), .val (.ref b455), .val (.ref b_466), .val (.ref c_475), .val (.int (1 : Int32)), .val (.ref c_487), .val (.int (1 : Int32)), .val (.ref b_453), .val (.int (1 : Int32)), .unset, .unset, .unset, .unset] [(.ref b_466)])) rfl (by rw [hml]; rfl) (Steps.refl _) (argsL := []) (rest := []) (lenOf pd___Ljava_lang_String_ rfl) rfl (by show 2 * 0 + _ ≤ _; exact Nat.le_of_eq rfl) (hb hby at_226) (fun _ _ => ⟨rfl, eq497, (by decide : 13 + 0 ≤ _), (by decide : 47 + 0 ≤ _)⟩)
  dsimp only [Pt.U, Pt.locs, Pt.cells, Pt.slots] at X499 l499 y499 z499 st499 hQ499
  subst l499 y499 z499
  obtain ⟨rfl, N499q, eq499⟩ := hQ499
  have N499 := Fr.app N497 N499q
  have f502 := ((((f466_7.other W473 (Or.inl (Ne.symm (Nat.ne_of_lt (Nat.lt_of_lt_of_le f468.lt lo_b_466))))).keep K475 nin0).other W485 (Or.inl (Nat.ne_of_lt (Nat.lt_of_lt_of_le f479.lt lo_c_475)))).keep K487 nin0)
  obtain ⟨cq501, kq501, q501a, q501b, q501c⟩ := isOf hZ466 eq499 f496
  -- pc 260: com/example/larkbridge/larkbridge/mcp/McpResourceContents.isText
  obtain ⟨_, _, ⟨T501, L501, k501, n501⟩, -, X501, ⟨Lc501, hQ501, l501, y501, z501⟩, st501⟩ := X499.virtualBack hx (y := y9) (z := y9) hw466 (mvT hZ466 (W 92 rfl)) (mvT hZ466 (W 93 rfl)) (notFace_of_selects (args := #[]) (mvT hZ466 (W 95 rfl))) (mvT hZ466 (W 95 rfl)) (mvT hZ466 (W 94 rfl)) (by decide) (backOf (W := 0) (rmist l Z a0 G1 hG [] b_466 T487.heap n0 Z492 O492 f502) hZ466 (W 96 rfl) (W 36 rfl) (by decide) (by decide)) q501a q501c (g := (mkF m 260 #[.val (.int p0), .val (.int p1), .val (.int p2), .val (.int p3), .val (.ref b_453), .val (.int vm_), .val .null, .val (.int (3 : Int32)), .val (.ref b455), .val (.ref b_466), .val (.ref c_475), .val (.int (1 : Int32)), .val (.ref c_487), .val (.int (1 : Int32)), .val (.ref b_453), .val (.int (1 : Int32)), .val .null, .val (.int (1 : Int32)), .unset, .unset] [(.ref b_466)])) rfl (by rw [hml]; rfl) (Steps.refl _) (argsL := []) (rest := []) (lenOf pd___Z rfl) rfl (by show 2 * 0 + _ ≤ _; exact Nat.le_of_eq rfl) (hb hby at_260) (fun _ _ => ⟨rfl, eq499, (by decide : 13 + 0 ≤ _), (by decide : 47 + 0 ≤ _)⟩)
  dsimp only [Pt.U, Pt.locs, Pt.cells, Pt.slots] at X501 l501 y501 z501 st501 hQ501
  subst l501 y501 z501
  obtain ⟨rfl, N501q, eq501⟩ := hQ501
  have N501 := Fr.app N499 N501q
  obtain ⟨cq503, kq503, q503a, q503b, q503c⟩ := isOf hZ466 eq501 f496
  -- pc 275: com/example/larkbridge/larkbridge/mcp/McpResourceContents.text
  obtain ⟨_, _, ⟨T503, L503, k503, n503⟩, -, X503, ⟨Lc503, hQ503, l503, y503, z503⟩, st503⟩ := X501.virtualBack hx (y := y10) (z := y10) hw466 (mvT hZ466 (W 97 rfl)) (mvT hZ466 (W 98 rfl)) (notFace_of_selects (args := #[]) (mvT hZ466 (W 100 rfl))) (mvT hZ466 (W 100 rfl)) (mvT hZ466 (W 99 rfl)) (by decide) (backOf (W := 0) (rmtxt l Z a0 G1 hG [] b_466 T487.heap n0 Z492 O492 f502) hZ466 (W 101 rfl) (W 36 rfl) (by decide) (by decide)) q503a q503c (g := (mkF m 275 #[.val (.int p0), .val (.int p1), .val (.int p2), .val (.int p3), .val (.ref b_453), .val (.int vm_), .val .null, .val (.int (3 : Int32)), .val (.ref b455), .val (.ref b_466), .val (.ref c_475), .val (.int (1 : Int32)), .val (.ref c_487), .val (.int (1 : Int32)), .val (.ref b_453), .val (.int (1 : Int32)), .val .null, .val (.int (1 : Int32)), .val (.int (1 : Int32)), .unset] [(.ref b_466)])) rfl (by rw [hml]; rfl) (Steps.refl _) (argsL := []) (rest := []) (lenOf pd___Ljava_lang_String_ rfl) rfl (by show 2 * 0 + _ ≤ _; exact Nat.le_of_eq rfl) (hb hby at_275) (fun _ _ => ⟨rfl, eq501, (by decide : 13 + 0 ≤ _), (by decide : 47 + 0 ≤ _)⟩)
  dsimp only [Pt.U, Pt.locs, Pt.cells, Pt.slots] at X503 l503 y503 z503 st503 hQ503
  subst l503 y503 z503
  obtain ⟨rfl, N503q, eq503⟩ := hQ503
  have N503 := Fr.app N501 N503q
  obtain ⟨fs, hr, hrun, hended, hend⟩ := Jvm.Stand.leaveW (v := some (.int (1 : Int32))) X503 hSn466 (by rw [eq503]; exact hk492) (fun h => by rw [Bd.returns] at h; cases h)
  have hFin := R492.trans (CHv.at X503 hZ466 hEL R492.1)
  refine ⟨_, _, pre0 _ ?_, hrun, hended, _, _, rfl, ?_, ?_, own_mono hend (Nat.le_of_ble_eq_true rfl) (Nat.le_of_ble_eq_true rfl)⟩
  · show Steps p.tables e below (s₁.setTop (mkF m 0 #[.val (.int p0), .val (.int p1), .val (.int p2), .val (.int p3), .unset, .unset, .unset, .unset, .unset, .unset, .unset, .unset, .unset, .unset, .unset, .unset, .unset, .unset, .unset, .unset] [])) _
    refine XS.iloadN X0.here hx rfl (hb hby at_0) rfl ?_
    refine XS.iloadN X0.here hx rfl (hb hby at_1) rfl ?_
    refine XS.iconst X0.here hx rfl (hb hby at_2) ?_
    refine XS.iand X0.here hx rfl (hb hby at_3) rfl ?_
    refine st453.trans ?_
    show Steps p.tables e below (T453.setTop (mkF m 7 #[.val (.int p0), .val (.int p1), .val (.int p2), .val (.int p3), .unset, .unset, .unset, .unset, .unset, .unset, .unset, .unset, .unset, .unset, .unset, .unset, .unset, .unset, .unset, .unset] [(.ref b_453)])) _
    refine XS.astore X453.here hx rfl (hb hby at_7) rfl rfl (l' := #[.val (.int p0), .val (.int p1), .val (.int p2), .val (.int p3), .val (.ref b_453), .unset, .unset, .unset, .unset, .unset, .unset, .unset, .unset, .unset, .unset, .unset, .unset, .unset, .unset, .unset]) rfl ?_
    refine XS.iloadN X453.here hx rfl (hb hby at_9) rfl ?_
    refine XS.iconst X453.here hx rfl (hb hby at_10) ?_
    refine XS.iushr X453.here hx rfl (hb hby at_11) rfl ?_
    refine XS.bipush X453.here hx rfl (hb hby at_12) ?_
    refine XS.iand X453.here hx rfl (hb hby at_14) rfl ?_
    show Steps p.tables e below (T453.setTop (mkF m 15 #[.val (.int p0), .val (.int p1), .val (.int p2), .val (.int p3), .val (.ref b_453), .unset, .unset, .unset, .unset, .unset, .unset, .unset, .unset, .unset, .unset, .unset, .unset, .unset, .unset, .unset] [(.int (((p3.toUInt32 >>> ((2 : Int32) &&& 31).toUInt32).toInt32) &&& (7 : Int32)))])) _
    rw [← hvm]
    show Steps p.tables e below (T453.setTop (mkF m 15 #[.val (.int p0), .val (.int p1), .val (.int p2), .val (.int p3), .val (.ref b_453), .unset, .unset, .unset, .unset, .unset, .unset, .unset, .unset, .unset, .unset, .unset, .unset, .unset, .unset, .unset] [(.int vm_)])) _
    refine XS.istore X453.here hx rfl (hb hby at_15) rfl (l' := #[.val (.int p0), .val (.int p1), .val (.int p2), .val (.int p3), .val (.ref b_453), .val (.int vm_), .unset, .unset, .unset, .unset, .unset, .unset, .unset, .unset, .unset, .unset, .unset, .unset, .unset, .unset]) rfl ?_
    refine XS.iload X453.here hx rfl (hb hby at_17) rfl ?_
    refine XS.ifNo X453.here hx rfl (hb hby at_19) rfl ((if0 _ _).trans (teq ((by rw [hvm]; exact hm) : vm_ = (0 : Int32))).2) ?_
    refine XS.aconstNull X453.here hx rfl (hb hby at_22) ?_
    refine XS.goto X453.here hx rfl (pc0 := 23) (pc' := 34) rfl (hb hby at_23) (by decide) (by decide) ?_
    refine XS.astore X453.here hx rfl (hb hby at_34) rfl rfl (l' := #[.val (.int p0), .val (.int p1), .val (.int p2), .val (.int p3), .val (.ref b_453), .val (.int vm_), .val .null, .unset, .unset, .unset, .unset, .unset, .unset, .unset, .unset, .unset, .unset, .unset, .unset, .unset]) rfl ?_
    refine XS.iloadN X453.here hx rfl (hb hby at_36) rfl ?_
    refine XS.iconst X453.here hx rfl (hb hby at_37) ?_
    show Steps p.tables e below (T453.setTop (mkF m 38 #[.val (.int p0), .val (.int p1), .val (.int p2), .val (.int p3), .val (.ref b_453), .val (.int vm_), .val .null, .unset, .unset, .unset, .unset, .unset, .unset, .unset, .unset, .unset, .unset, .unset, .unset, .unset] [(.int (5 : Int32)), (.int p3)])) _
    refine XS.iushr X453.here hx rfl (hb hby at_38) rfl ?_
    refine XS.bipush X453.here hx rfl (hb hby at_39) ?_
    refine XS.iand X453.here hx rfl (hb hby at_41) rfl ?_
    refine XS.iconst X453.here hx rfl (hb hby at_42) ?_
    refine iremM (g := (mkF m 43 #[.val (.int p0), .val (.int p1), .val (.int p2), .val (.int p3), .val (.ref b_453), .val (.int vm_), .val .null, .unset, .unset, .unset, .unset, .unset, .unset, .unset, .unset, .unset, .unset, .unset, .unset, .unset] [(.int (5 : Int32)), (.int (((p3.toUInt32 >>> ((5 : Int32) &&& 31).toUInt32).toInt32) &&& (7 : Int32)))])) X453 hx rfl (hb hby at_43) rfl (by decide) ?_
    show Steps p.tables e below (T453.setTop (mkF m 44 #[.val (.int p0), .val (.int p1), .val (.int p2), .val (.int p3), .val (.ref b_453), .val (.int vm_), .val .null, .unset, .unset, .unset, .unset, .unset, .unset, .unset, .unset, .unset, .unset, .unset, .unset, .unset] [(.int ((((p3.toUInt32 >>> ((5 : Int32) &&& 31).toUInt32).toInt32) &&& (7 : Int32)) % (5 : Int32)))])) _
    rw [hn]
    show Steps p.tables e below (T453.setTop (mkF m 44 #[.val (.int p0), .val (.int p1), .val (.int p2), .val (.int p3), .val (.ref b_453), .val (.int vm_), .val .null, .unset, .unset, .unset, .unset, .unset, .unset, .unset, .unset, .unset, .unset, .unset, .unset, .unset] [(.int (3 : Int32))])) _
    refine XS.istore X453.here hx rfl (hb hby at_44) rfl (l' := #[.val (.int p0), .val (.int p1), .val (.int p2), .val (.int p3), .val (.ref b_453), .val (.int vm_), .val .null, .val (.int (3 : Int32)), .unset, .unset, .unset, .unset, .unset, .unset, .unset, .unset, .unset, .unset, .unset, .unset]) rfl ?_
    refine XS.iload X453.here hx rfl (hb hby at_46) rfl ?_
    refine st455 _ ?_
    show Steps p.tables e below (T455.setTop (mkF m 50 #[.val (.int p0), .val (.int p1), .val (.int p2), .val (.int p3), .val (.ref b_453), .val (.int vm_), .val .null, .val (.int (3 : Int32)), .unset, .unset, .unset, .unset, .unset, .unset, .unset, .unset, .unset, .unset, .unset, .unset] [(.ref b455)])) _
    refine XS.astore X455.here hx rfl (hb hby at_50) rfl rfl (l' := #[.val (.int p0), .val (.int p1), .val (.int p2), .val (.int p3), .val (.ref b_453), .val (.int vm_), .val .null, .val (.int (3 : Int32)), .val (.ref b455), .unset, .unset, .unset, .unset, .unset, .unset, .unset, .unset, .unset, .unset, .unset]) rfl ?_
    refine XS.iload X455.here hx rfl (hb hby at_52) rfl ?_
    refine XS.ifNo X455.here hx rfl (hb hby at_54) rfl ((if0 _ _).trans (tlt (by decide : (0 : Int32) < (3 : Int32))).2.2.2) ?_
    refine XS.aload X455.here hx rfl (hb hby at_57) rfl rfl ?_
    refine XS.iconst X455.here hx rfl (hb hby at_59) ?_
    refine XS.iloadN X455.here hx rfl (hb hby at_60) rfl ?_
    refine XS.i2b X455.here hx rfl (hb hby at_61) rfl ?_
    refine st458 _ ?_
    show Steps p.tables e below (T458.setTop (mkF m 63 #[.val (.int p0), .val (.int p1), .val (.int p2), .val (.int p3), .val (.ref b_453), .val (.int vm_), .val .null, .val (.int (3 : Int32)), .val (.ref b455), .unset, .unset, .unset, .unset, .unset, .unset, .unset, .unset, .unset, .unset, .unset] [])) _
    refine XS.iload X458.here hx rfl (hb hby at_63) rfl ?_
    refine XS.iconst X458.here hx rfl (hb hby at_65) ?_
    refine XS.icmpNo X458.here hx rfl (hb hby at_66) rfl (tlt (by decide : (1 : Int32) < (3 : Int32))).2.2.2 ?_
    refine XS.aload X458.here hx rfl (hb hby at_69) rfl rfl ?_
    refine XS.iconst X458.here hx rfl (hb hby at_71) ?_
    refine XS.iloadN X458.here hx rfl (hb hby at_72) rfl ?_
    refine XS.bipush X458.here hx rfl (hb hby at_73) ?_
    refine XS.iushr X458.here hx rfl (hb hby at_75) rfl ?_
    show Steps p.tables e below (T458.setTop (mkF m 76 #[.val (.int p0), .val (.int p1), .val (.int p2), .val (.int p3), .val (.ref b_453), .val (.int vm_), .val .null, .val (.int (3 : Int32)), .val (.ref b455), .unset, .unset, .unset, .unset, .unset, .unset, .unset, .unset, .unset, .unset, .unset] [(.int ((p2.toUInt32 >>> ((8 : Int32) &&& 31).toUInt32).toInt32)), (.int (1 : Int32)), (.ref b455)])) _
    refine XS.i2b X458.here hx rfl (hb hby at_76) rfl ?_
    refine st461 _ ?_
    show Steps p.tables e below (T461.setTop (mkF m 78 #[.val (.int p0), .val (.int p1), .val (.int p2), .val (.int p3), .val (.ref b_453), .val (.int vm_), .val .null, .val (.int (3 : Int32)), .val (.ref b455), .unset, .unset, .unset, .unset, .unset, .unset, .unset, .unset, .unset, .unset, .unset] [])) _
    refine XS.iload X461.here hx rfl (hb hby at_78) rfl ?_
    refine XS.iconst X461.here hx rfl (hb hby at_80) ?_
    refine XS.icmpNo X461.here hx rfl (hb hby at_81) rfl (tlt (by decide : (2 : Int32) < (3 : Int32))).2.2.2 ?_
    refine XS.aload X461.here hx rfl (hb hby at_84) rfl rfl ?_
    refine XS.iconst X461.here hx rfl (hb hby at_86) ?_
    refine XS.iloadN X461.here hx rfl (hb hby at_87) rfl ?_
    refine XS.bipush X461.here hx rfl (hb hby at_88) ?_
    refine XS.iushr X461.here hx rfl (hb hby at_90) rfl ?_
    show Steps p.tables e below (T461.setTop (mkF m 91 #[.val (.int p0), .val (.int p1), .val (.int p2), .val (.int p3), .val (.ref b_453), .val (.int vm_), .val .null, .val (.int (3 : Int32)), .val (.ref b455), .unset, .unset, .unset, .unset, .unset, .unset, .unset, .unset, .unset, .unset, .unset] [(.int ((p2.toUInt32 >>> ((16 : Int32) &&& 31).toUInt32).toInt32)), (.int (2 : Int32)), (.ref b455)])) _
    refine XS.i2b X461.here hx rfl (hb hby at_91) rfl ?_
    refine st464 _ ?_
    show Steps p.tables e below (T464.setTop (mkF m 93 #[.val (.int p0), .val (.int p1), .val (.int p2), .val (.int p3), .val (.ref b_453), .val (.int vm_), .val .null, .val (.int (3 : Int32)), .val (.ref b455), .unset, .unset, .unset, .unset, .unset, .unset, .unset, .unset, .unset, .unset, .unset] [])) _
    refine XS.iload X464.here hx rfl (hb hby at_93) rfl ?_
    refine XS.iconst X464.here hx rfl (hb hby at_95) ?_
    refine XS.icmpYes X464.here hx rfl (pc0 := 96) (pc' := 108) rfl (hb hby at_96) rfl (flt (by decide : ¬ ((3 : Int32) < (3 : Int32)))).2.2.2 (by decide) (by decide) ?_
    refine XS.aload X464.here hx rfl (hb hby at_108) rfl rfl ?_
    refine XS.aload X464.here hx rfl (hb hby at_110) rfl rfl ?_
    refine XS.aload X464.here hx rfl (hb hby at_112) rfl rfl ?_
    refine st466.trans ?_
    show Steps p.tables e below (T466.setTop (mkF m 117 #[.val (.int p0), .val (.int p1), .val (.int p2), .val (.int p3), .val (.ref b_453), .val (.int vm_), .val .null, .val (.int (3 : Int32)), .val (.ref b455), .unset, .unset, .unset, .unset, .unset, .unset, .unset, .unset, .unset, .unset, .unset] [(.ref b_466)])) _
    refine XS.astore X466.here hx rfl (hb hby at_117) rfl rfl (l' := #[.val (.int p0), .val (.int p1), .val (.int p2), .val (.int p3), .val (.ref b_453), .val (.int vm_), .val .null, .val (.int (3 : Int32)), .val (.ref b455), .val (.ref b_466), .unset, .unset, .unset, .unset, .unset, .unset, .unset, .unset, .unset, .unset]) rfl ?_
    refine XS.iload X466.here hx rfl (hb hby at_119) rfl ?_
    refine XS.ifNo X466.here hx rfl (hb hby at_121) rfl ((if0 _ _).trans (tlt (by decide : (0 : Int32) < (3 : Int32))).2.2.2) ?_
    refine XS.aload X466.here hx rfl (hb hby at_124) rfl rfl ?_
    refine XS.iconst X466.here hx rfl (hb hby at_126) ?_
    refine XS.aload X466.here hx rfl (hb hby at_127) rfl rfl ?_
    refine XS.iconst X466.here hx rfl (hb hby at_129) ?_
    refine X466.baloadBytes hx (j := (0 : Int32)) (v := (.int ((p2.toInt8.toInt32).toInt8.toInt32))) (own_cell rfl Arq471.1) (State.isArrayOf_alike hZ466.alike Arq471.2.1) Arq471.2.2 hinq471 hatq471 (g := (mkF m 130 #[.val (.int p0), .val (.int p1), .val (.int p2), .val (.int p3), .val (.ref b_453), .val (.int vm_), .val .null, .val (.int (3 : Int32)), .val (.ref b455), .val (.ref b_466), .unset, .unset, .unset, .unset, .unset, .unset, .unset, .unset, .unset, .unset] [(.int (0 : Int32)), (.ref b455), (.int (0 : Int32)), (.ref b455)])) rfl rfl (hb hby at_130) _ ?_
    show Steps p.tables e below (T466.setTop (mkF m 131 #[.val (.int p0), .val (.int p1), .val (.int p2), .val (.int p3), .val (.ref b_453), .val (.int vm_), .val .null, .val (.int (3 : Int32)), .val (.ref b455), .val (.ref b_466), .unset, .unset, .unset, .unset, .unset, .unset, .unset, .unset, .unset, .unset] [(.int ((p2.toInt8.toInt32).toInt8.toInt32)), (.int (0 : Int32)), (.ref b455)])) _
    refine XS.iconst X466.here hx rfl (hb hby at_131) ?_
    refine XS.ixor X466.here hx rfl (hb hby at_132) rfl ?_
    refine XS.i2b X466.here hx rfl (hb hby at_133) rfl ?_
    refine st473 _ ?_
    show Steps p.tables e below (T473.setTop (mkF m 135 #[.val (.int p0), .val (.int p1), .val (.int p2), .val (.int p3), .val (.ref b_453), .val (.int vm_), .val .null, .val (.int (3 : Int32)), .val (.ref b455), .val (.ref b_466), .unset, .unset, .unset, .unset, .unset, .unset, .unset, .unset, .unset, .unset] [])) _
    refine XS.iload X473.here hx rfl (hb hby at_135) rfl ?_
    refine XS.iconst X473.here hx rfl (hb hby at_137) ?_
    refine XS.icmpYes X473.here hx rfl (pc0 := 138) (pc' := 152) rfl (hb hby at_138) rfl (flt (by decide : ¬ ((3 : Int32) < (3 : Int32)))).2.2.2 (by decide) (by decide) ?_
    refine XS.aload X473.here hx rfl (hb hby at_152) rfl rfl ?_
    refine st475.trans ?_
    show Steps p.tables e below (T475.setTop (mkF m 157 #[.val (.int p0), .val (.int p1), .val (.int p2), .val (.int p3), .val (.ref b_453), .val (.int vm_), .val .null, .val (.int (3 : Int32)), .val (.ref b455), .val (.ref b_466), .unset, .unset, .unset, .unset, .unset, .unset, .unset, .unset, .unset, .unset] [(.ref c_475)])) _
    refine XS.astore X475.here hx rfl (hb hby at_157) rfl rfl (l' := #[.val (.int p0), .val (.int p1), .val (.int p2), .val (.int p3), .val (.ref b_453), .val (.int vm_), .val .null, .val (.int (3 : Int32)), .val (.ref b455), .val (.ref b_466), .val (.ref c_475), .unset, .unset, .unset, .unset, .unset, .unset, .unset, .unset, .unset]) rfl ?_
    refine XS.aload X475.here hx rfl (hb hby at_159) rfl rfl ?_
    refine XS.iload X475.here hx rfl (hb hby at_161) rfl ?_
    refine XS.iloadN X475.here hx rfl (hb hby at_163) rfl ?_
    refine st481 _ ?_
    show Steps p.tables e below (T481.setTop (mkF m 167 #[.val (.int p0), .val (.int p1), .val (.int p2), .val (.int p3), .val (.ref b_453), .val (.int vm_), .val .null, .val (.int (3 : Int32)), .val (.ref b455), .val (.ref b_466), .val (.ref c_475), .unset, .unset, .unset, .unset, .unset, .unset, .unset, .unset, .unset] [(.int (1 : Int32))])) _
    refine XS.istore X481.here hx rfl (hb hby at_167) rfl (l' := #[.val (.int p0), .val (.int p1), .val (.int p2), .val (.int p3), .val (.ref b_453), .val (.int vm_), .val .null, .val (.int (3 : Int32)), .val (.ref b455), .val (.ref b_466), .val (.ref c_475), .val (.int (1 : Int32)), .unset, .unset, .unset, .unset, .unset, .unset, .unset, .unset]) rfl ?_
    refine XS.aload X481.here hx rfl (hb hby at_169) rfl rfl ?_
    refine XS.ifnullNo X481.here hx rfl (hb hby at_171) rfl ?_
    refine XS.aload X481.here hx rfl (hb hby at_174) rfl rfl ?_
    refine X481.arraylength hx (own_cell eq481 Arq482.1) (State.isArrayOf_alike hZ466.alike Arq482.2.1) (g := (mkF m 176 #[.val (.int p0), .val (.int p1), .val (.int p2), .val (.int p3), .val (.ref b_453), .val (.int vm_), .val .null, .val (.int (3 : Int32)), .val (.ref b455), .val (.ref b_466), .val (.ref c_475), .val (.int (1 : Int32)), .unset, .unset, .unset, .unset, .unset, .unset, .unset, .unset] [(.ref c_475)])) rfl rfl (hb hby at_176) _ ?_
    rw [len_of Sq482 Nq482]
    refine XS.ifNo X481.here hx rfl (hb hby at_177) rfl ((if0 _ _).trans (tlt (by decide : (0 : Int32) < (3 : Int32))).2.2.2) ?_
    refine XS.aload X481.here hx rfl (hb hby at_180) rfl rfl ?_
    refine XS.iconst X481.here hx rfl (hb hby at_182) ?_
    show Steps p.tables e below (T481.setTop (mkF m 183 #[.val (.int p0), .val (.int p1), .val (.int p2), .val (.int p3), .val (.ref b_453), .val (.int vm_), .val .null, .val (.int (3 : Int32)), .val (.ref b455), .val (.ref b_466), .val (.ref c_475), .val (.int (1 : Int32)), .unset, .unset, .unset, .unset, .unset, .unset, .unset, .unset] [(.int (0 : Int32)), (.ref c_475)])) _
    refine XS.aload X481.here hx rfl (hb hby at_183) rfl rfl ?_
    refine XS.iconst X481.here hx rfl (hb hby at_185) ?_
    refine X481.baloadBytes hx (j := (0 : Int32)) (v := (.int ((p2.toInt8.toInt32).toInt8.toInt32))) (own_cell eq481 Arq483.1) (State.isArrayOf_alike hZ466.alike Arq483.2.1) Arq483.2.2 hinq483 hatq483 (g := (mkF m 186 #[.val (.int p0), .val (.int p1), .val (.int p2), .val (.int p3), .val (.ref b_453), .val (.int vm_), .val .null, .val (.int (3 : Int32)), .val (.ref b455), .val (.ref b_466), .val (.ref c_475), .val (.int (1 : Int32)), .unset, .unset, .unset, .unset, .unset, .unset, .unset, .unset] [(.int (0 : Int32)), (.ref c_475), (.int (0 : Int32)), (.ref c_475)])) rfl rfl (hb hby at_186) _ ?_
    refine XS.iconst X481.here hx rfl (hb hby at_187) ?_
    refine XS.ixor X481.here hx rfl (hb hby at_188) rfl ?_
    refine XS.i2b X481.here hx rfl (hb hby at_189) rfl ?_
    refine st485 _ ?_
    show Steps p.tables e below (T485.setTop (mkF m 191 #[.val (.int p0), .val (.int p1), .val (.int p2), .val (.int p3), .val (.ref b_453), .val (.int vm_), .val .null, .val (.int (3 : Int32)), .val (.ref b455), .val (.ref b_466), .val (.ref c_475), .val (.int (1 : Int32)), .unset, .unset, .unset, .unset, .unset, .unset, .unset, .unset] [])) _
    refine XS.aload X485.here hx rfl (hb hby at_191) rfl rfl ?_
    refine st487.trans ?_
    show Steps p.tables e below (T487.setTop (mkF m 196 #[.val (.int p0), .val (.int p1), .val (.int p2), .val (.int p3), .val (.ref b_453), .val (.int vm_), .val .null, .val (.int (3 : Int32)), .val (.ref b455), .val (.ref b_466), .val (.ref c_475), .val (.int (1 : Int32)), .unset, .unset, .unset, .unset, .unset, .unset, .unset, .unset] [(.ref c_487)])) _
    refine XS.astore X487.here hx rfl (hb hby at_196) rfl rfl (l' := #[.val (.int p0), .val (.int p1), .val (.int p2), .val (.int p3), .val (.ref b_453), .val (.int vm_), .val .null, .val (.int (3 : Int32)), .val (.ref b455), .val (.ref b_466), .val (.ref c_475), .val (.int (1 : Int32)), .val (.ref c_487), .unset, .unset, .unset, .unset, .unset, .unset, .unset]) rfl ?_
    refine XS.aload X487.here hx rfl (hb hby at_198) rfl rfl ?_
    refine XS.iload X487.here hx rfl (hb hby at_200) rfl ?_
    refine XS.iloadN X487.here hx rfl (hb hby at_202) rfl ?_
    refine st493 _ ?_
    show Steps p.tables e below (T493.setTop (mkF m 206 #[.val (.int p0), .val (.int p1), .val (.int p2), .val (.int p3), .val (.ref b_453), .val (.int vm_), .val .null, .val (.int (3 : Int32)), .val (.ref b455), .val (.ref b_466), .val (.ref c_475), .val (.int (1 : Int32)), .val (.ref c_487), .unset, .unset, .unset, .unset, .unset, .unset, .unset] [(.int (1 : Int32))])) _
    refine XS.istore X493.here hx rfl (hb hby at_206) rfl (l' := #[.val (.int p0), .val (.int p1), .val (.int p2), .val (.int p3), .val (.ref b_453), .val (.int vm_), .val .null, .val (.int (3 : Int32)), .val (.ref b455), .val (.ref b_466), .val (.ref c_475), .val (.int (1 : Int32)), .val (.ref c_487), .val (.int (1 : Int32)), .unset, .unset, .unset, .unset, .unset, .unset]) rfl ?_
    refine XS.aload X493.here hx rfl (hb hby at_208) rfl rfl ?_
    refine st494.trans ?_
    show Steps p.tables e below (T494.setTop (mkF m 213 #[.val (.int p0), .val (.int p1), .val (.int p2), .val (.int p3), .val (.ref b_453), .val (.int vm_), .val .null, .val (.int (3 : Int32)), .val (.ref b455), .val (.ref b_466), .val (.ref c_475), .val (.int (1 : Int32)), .val (.ref c_487), .val (.int (1 : Int32)), .unset, .unset, .unset, .unset, .unset, .unset] [(.ref b_453)])) _
    refine XS.astore X494.here hx rfl (hb hby at_213) rfl rfl (l' := #[.val (.int p0), .val (.int p1), .val (.int p2), .val (.int p3), .val (.ref b_453), .val (.int vm_), .val .null, .val (.int (3 : Int32)), .val (.ref b455), .val (.ref b_466), .val (.ref c_475), .val (.int (1 : Int32)), .val (.ref c_487), .val (.int (1 : Int32)), .val (.ref b_453), .unset, .unset, .unset, .unset, .unset]) rfl ?_
    refine XS.aload X494.here hx rfl (hb hby at_215) rfl rfl ?_
    refine XS.aload X494.here hx rfl (hb hby at_217) rfl rfl ?_
    refine st497.trans ?_
    show Steps p.tables e below (T497.setTop (mkF m 222 #[.val (.int p0), .val (.int p1), .val (.int p2), .val (.int p3), .val (.ref b_453), .val (.int vm_), .val .null, .val (.int (3 : Int32)), .val (.ref b455), .val (.ref b_466), .val (.ref c_475), .val (.int (1 : Int32)), .val (.ref c_487), .val (.int (1 : Int32)), .val (.ref b_453), .unset, .unset, .unset, .unset, .unset] [(.int (1 : Int32))])) _
    refine XS.istore X497.here hx rfl (hb hby at_222) rfl (l' := #[.val (.int p0), .val (.int p1), .val (.int p2), .val (.int p3), .val (.ref b_453), .val (.int vm_), .val .null, .val (.int (3 : Int32)), .val (.ref b455), .val (.ref b_466), .val (.ref c_475), .val (.int (1 : Int32)), .val (.ref c_487), .val (.int (1 : Int32)), .val (.ref b_453), .val (.int (1 : Int32)), .unset, .unset, .unset, .unset]) rfl ?_
    refine XS.aload X497.here hx rfl (hb hby at_224) rfl rfl ?_
    refine st499.trans ?_
    show Steps p.tables e below (T499.setTop (mkF m 229 #[.val (.int p0), .val (.int p1), .val (.int p2), .val (.int p3), .val (.ref b_453), .val (.int vm_), .val .null, .val (.int (3 : Int32)), .val (.ref b455), .val (.ref b_466), .val (.ref c_475), .val (.int (1 : Int32)), .val (.ref c_487), .val (.int (1 : Int32)), .val (.ref b_453), .val (.int (1 : Int32)), .unset, .unset, .unset, .unset] [.null])) _
    refine XS.astore X499.here hx rfl (hb hby at_229) rfl rfl (l' := #[.val (.int p0), .val (.int p1), .val (.int p2), .val (.int p3), .val (.ref b_453), .val (.int vm_), .val .null, .val (.int (3 : Int32)), .val (.ref b455), .val (.ref b_466), .val (.ref c_475), .val (.int (1 : Int32)), .val (.ref c_487), .val (.int (1 : Int32)), .val (.ref b_453), .val (.int (1 : Int32)), .val .null, .unset, .unset, .unset]) rfl ?_
    refine XS.aload X499.here hx rfl (hb hby at_231) rfl rfl ?_
    refine XS.ifnonnullNo X499.here hx rfl (hb hby at_233) rfl ?_
    refine XS.aload X499.here hx rfl (hb hby at_236) rfl rfl ?_
    refine XS.ifnonnullNo X499.here hx rfl (hb hby at_238) rfl ?_
    refine XS.iconst X499.here hx rfl (hb hby at_241) ?_
    refine XS.goto X499.here hx rfl (pc0 := 242) (pc' := 256) rfl (hb hby at_242) (by decide) (by decide) ?_
    refine XS.istore X499.here hx rfl (hb hby at_256) rfl (l' := #[.val (.int p0), .val (.int p1), .val (.int p2), .val (.int p3), .val (.ref b_453), .val (.int vm_), .val .null, .val (.int (3 : Int32)), .val (.ref b455), .val (.ref b_466), .val (.ref c_475), .val (.int (1 : Int32)), .val (.ref c_487), .val (.int (1 : Int32)), .val (.ref b_453), .val (.int (1 : Int32)), .val .null, .val (.int (1 : Int32)), .unset, .unset]) rfl ?_
    show Steps p.tables e below (T499.setTop (mkF m 258 #[.val (.int p0), .val (.int p1), .val (.int p2), .val (.int p3), .val (.ref b_453), .val (.int vm_), .val .null, .val (.int (3 : Int32)), .val (.ref b455), .val (.ref b_466), .val (.ref c_475), .val (.int (1 : Int32)), .val (.ref c_487), .val (.int (1 : Int32)), .val (.ref b_453), .val (.int (1 : Int32)), .val .null, .val (.int (1 : Int32)), .unset, .unset] [])) _
    refine XS.aload X499.here hx rfl (hb hby at_258) rfl rfl ?_
    refine st501.trans ?_
    show Steps p.tables e below (T501.setTop (mkF m 263 #[.val (.int p0), .val (.int p1), .val (.int p2), .val (.int p3), .val (.ref b_453), .val (.int vm_), .val .null, .val (.int (3 : Int32)), .val (.ref b455), .val (.ref b_466), .val (.ref c_475), .val (.int (1 : Int32)), .val (.ref c_487), .val (.int (1 : Int32)), .val (.ref b_453), .val (.int (1 : Int32)), .val .null, .val (.int (1 : Int32)), .unset, .unset] [(.int (0 : Int32))])) _
    refine XS.ifNo X501.here hx rfl (hb hby at_263) rfl ((if0 _ _).trans (teq (by decide : (0 : Int32) = (0 : Int32))).2) ?_
    refine XS.iconst X501.here hx rfl (hb hby at_266) ?_
    refine XS.goto X501.here hx rfl (pc0 := 267) (pc' := 271) rfl (hb hby at_267) (by decide) (by decide) ?_
    refine XS.istore X501.here hx rfl (hb hby at_271) rfl (l' := #[.val (.int p0), .val (.int p1), .val (.int p2), .val (.int p3), .val (.ref b_453), .val (.int vm_), .val .null, .val (.int (3 : Int32)), .val (.ref b455), .val (.ref b_466), .val (.ref c_475), .val (.int (1 : Int32)), .val (.ref c_487), .val (.int (1 : Int32)), .val (.ref b_453), .val (.int (1 : Int32)), .val .null, .val (.int (1 : Int32)), .val (.int (1 : Int32)), .unset]) rfl ?_
    refine XS.aload X501.here hx rfl (hb hby at_273) rfl rfl ?_
    refine st503.trans ?_
    show Steps p.tables e below (T503.setTop (mkF m 278 #[.val (.int p0), .val (.int p1), .val (.int p2), .val (.int p3), .val (.ref b_453), .val (.int vm_), .val .null, .val (.int (3 : Int32)), .val (.ref b455), .val (.ref b_466), .val (.ref c_475), .val (.int (1 : Int32)), .val (.ref c_487), .val (.int (1 : Int32)), .val (.ref b_453), .val (.int (1 : Int32)), .val .null, .val (.int (1 : Int32)), .val (.int (1 : Int32)), .unset] [.null])) _
    refine XS.ifnonnullNo X503.here hx rfl (hb hby at_278) rfl ?_
    refine XS.iconst X503.here hx rfl (hb hby at_281) ?_
    refine XS.goto X503.here hx rfl (pc0 := 282) (pc' := 286) rfl (hb hby at_282) (by decide) (by decide) ?_
    refine XS.istore X503.here hx rfl (hb hby at_286) rfl (l' := #[.val (.int p0), .val (.int p1), .val (.int p2), .val (.int p3), .val (.ref b_453), .val (.int vm_), .val .null, .val (.int (3 : Int32)), .val (.ref b455), .val (.ref b_466), .val (.ref c_475), .val (.int (1 : Int32)), .val (.ref c_487), .val (.int (1 : Int32)), .val (.ref b_453), .val (.int (1 : Int32)), .val .null, .val (.int (1 : Int32)), .val (.int (1 : Int32)), .val (.int (1 : Int32))]) rfl ?_
    refine XS.iload X503.here hx rfl (hb hby at_288) rfl ?_
    refine XS.ifNo X503.here hx rfl (hb hby at_290) rfl ((if0 _ _).trans (feq (by decide : ¬ ((1 : Int32) = (0 : Int32)))).1) ?_
    refine XS.iload X503.here hx rfl (hb hby at_293) rfl ?_
    refine XS.ifNo X503.here hx rfl (hb hby at_295) rfl ((if0 _ _).trans (feq (by decide : ¬ ((1 : Int32) = (0 : Int32)))).1) ?_
    show Steps p.tables e below (T503.setTop (mkF m 298 #[.val (.int p0), .val (.int p1), .val (.int p2), .val (.int p3), .val (.ref b_453), .val (.int vm_), .val .null, .val (.int (3 : Int32)), .val (.ref b455), .val (.ref b_466), .val (.ref c_475), .val (.int (1 : Int32)), .val (.ref c_487), .val (.int (1 : Int32)), .val (.ref b_453), .val (.int (1 : Int32)), .val .null, .val (.int (1 : Int32)), .val (.int (1 : Int32)), .val (.int (1 : Int32))] [])) _
    refine XS.iload X503.here hx rfl (hb hby at_298) rfl ?_
    refine XS.ifNo X503.here hx rfl (hb hby at_300) rfl ((if0 _ _).trans (feq (by decide : ¬ ((1 : Int32) = (0 : Int32)))).1) ?_
    refine XS.iload X503.here hx rfl (hb hby at_303) rfl ?_
    refine XS.ifNo X503.here hx rfl (hb hby at_305) rfl ((if0 _ _).trans (feq (by decide : ¬ ((1 : Int32) = (0 : Int32)))).1) ?_
    refine XS.iload X503.here hx rfl (hb hby at_308) rfl ?_
    refine XS.ifNo X503.here hx rfl (hb hby at_310) rfl ((if0 _ _).trans (feq (by decide : ¬ ((1 : Int32) = (0 : Int32)))).1) ?_
    refine XS.iload X503.here hx rfl (hb hby at_313) rfl ?_
    refine XS.ifNo X503.here hx rfl (hb hby at_315) rfl ((if0 _ _).trans (feq (by decide : ¬ ((1 : Int32) = (0 : Int32)))).1) ?_
    show Steps p.tables e below (T503.setTop (mkF m 318 #[.val (.int p0), .val (.int p1), .val (.int p2), .val (.int p3), .val (.ref b_453), .val (.int vm_), .val .null, .val (.int (3 : Int32)), .val (.ref b455), .val (.ref b_466), .val (.ref c_475), .val (.int (1 : Int32)), .val (.ref c_487), .val (.int (1 : Int32)), .val (.ref b_453), .val (.int (1 : Int32)), .val .null, .val (.int (1 : Int32)), .val (.int (1 : Int32)), .val (.int (1 : Int32))] [])) _
    refine XS.iconst X503.here hx rfl (hb hby at_318) ?_
    refine XS.goto X503.here hx rfl (pc0 := 319) (pc' := 323) rfl (hb hby at_319) (by decide) (by decide) ?_
    exact retN X503 hx (t := .boolean) Bd.returns (by simp) (hb hby at_323) hr
  · show Q0 Z G1 p0 p1 p2 p3 h0 n0 _ T503.heap _
    rw [eq503]
    exact ⟨rfl, N503, K0_492⟩
  · show CHr Z own_EL s.vm s.heap T503.vm T503.heap
    rw [hh, eq503]
    exact hFin
set_option maxRecDepth 65536 in
set_option maxHeartbeats 40000000 in
theorem rm0_4t (l : Launch) (Z : State) (a0 : Array Value) (G1 : Int32) (hG : Glob Z a0 G1) (ws : List Jvm.Cond) (p0 : Int32) (p1 : Int32) (p2 : Int32) (p3 : Int32) (h0 : Heap) (n0 : Nat) (Z0 : n0 ≤ h0.size) (X00 : Old Z n0 h0) (hn : ((((p3.toUInt32 >>> ((5 : Int32) &&& 31).toUInt32).toInt32) &&& (7 : Int32)) % (5 : Int32)) = (4 : Int32)) (hm : ¬ ((((p3.toUInt32 >>> ((2 : Int32) &&& 31).toUInt32).toInt32) &&& (7 : Int32)) = (0 : Int32))) :
    MetFree l x (head1 (Jvm.Cond.code x code maxLocals ret :: ws) room_1) (fun a U => a = #[(.int p0), (.int p1), (.int p2), (.int p3)] ∧ Z.Warmed39 U.vm ∧ U.heap = h0 ∧ CHv Z own_EL U.vm h0) (fun _ _ _ _ _ => True) (fun _ U o U' => ∃ v L, o = .returned v ∧ Q0 Z G1 p0 p1 p2 p3 h0 n0 v U'.heap L ∧ CHr Z own_EL U.vm U.heap U'.vm U'.heap ∧ ReturnedEndW U o U' L room_1.cells room_1.slots) := by
  obtain ⟨hw, O_cs, P_cs⟩ := id hG
  have W : ∀ (i : Nat) {d : Jvm.Cond}, tables_1[i]? = some d → d.before a0 Z = true := fun i d h => hw d (List.mem_of_getElem? h)
  refine MetFree.of_bodySF (plainFor_of_name pn_com_example_larkbridge_larkbridge_mcp_McpResourceContentsBinaryPinLaw) hisR ?_
  intro p e s m args below meth c s₁ Bd hml0 hP hK
  obtain ⟨rfl, hZ, hh, hCH⟩ := hP
  have hx := Bd.exec
  have hby := Bd.bytes
  have hml : c.maxLocals = 20 := hml0
  have hown : s.vm.findClass "com/example/larkbridge/larkbridge/mcp/McpResourceContentsBinaryPinLaw" = some m.cls := findClass_of_methodNamed Bd.named
  have hnm := (name_of_methodNamed Bd.named Bd.method).1
  have X0 : Stand p l e room_1 (s.setVm s.vm) m #[(.int p0), (.int p1), (.int p2), (.int p3)] below meth c s₁ [] 0 0 := Stand.of_body Bd
  have e0 : s₁.heap = h0 := by rw [← hh, Bd.state]; rfl
  have hS0 : s.Since s.vm h0.size := (State.WarmedH.refl s).since _
  have hk0 : h0.size ≤ h0.size := Nat.le_refl _
  have R0 : CHr Z own_EL s.vm h0 s.vm h0 := CHr.refl hCH
  have hEL := own_ew hw
  have N0 := Fr.nil n0
  have pre0 : ∀ t, Steps p.tables e below (s₁.setTop (mkF m 0 #[.val (.int p0), .val (.int p1), .val (.int p2), .val (.int p3), .unset, .unset, .unset, .unset, .unset, .unset, .unset, .unset, .unset, .unset, .unset, .unset, .unset, .unset, .unset, .unset] [])) t → Steps p.tables e below (s₁.setTop (entryFrame m #[(.int p0), (.int p1), (.int p2), (.int p3)] maxLocals)) t := fun t kk_ => castTop (ef_code_IIII m p0 p1 p2 p3) kk_
  -- pc 4: com/example/larkbridge/larkbridge/mcp/McpResourceContentsBinaryPinLaw.str
  obtain ⟨_, _, ⟨T504, L504, k504, n504⟩, -, X504, hS504, hG504, ⟨Lc504, hQ504, l504, y504, z504, hC504⟩, st504⟩ := callSS X0 hx (y := y3) hown (mvT hZ (W 0 rfl)) (mvT hZ (W 1 rfl)) (mvT hZ (W 2 rfl)) (mvT hZ (W 3 rfl)) (by decide) (backOfSH (s := s) (W := 0) (rmstr l Z a0 G1 hG [] p0 (p3 &&& (3 : Int32)) h0 n0 Z0 X00) hZ (W 3 rfl) (W 2 rfl) (by decide) (by decide) hEL R0.1) (g := (mkF m 4 #[.val (.int p0), .val (.int p1), .val (.int p2), .val (.int p3), .unset, .unset, .unset, .unset, .unset, .unset, .unset, .unset, .unset, .unset, .unset, .unset, .unset, .unset, .unset, .unset] [(.int (p3 &&& (3 : Int32))), (.int p0)])) rfl (by rw [hml]; rfl) (argsL := [(.int p0), (.int (p3 &&& (3 : Int32)))]) (rest := []) (lenOf pd__II_Ljava_lang_String_ rfl) rfl (by show 2 * 0 + _ ≤ _; exact Nat.le_of_eq rfl) (hb hby at_4) (fun _ _ => ⟨rfl, e0, (by decide : 0 + 6 ≤ _), (by decide : 0 + 12 ≤ _)⟩)
  dsimp only [Pt.U, Pt.locs, Pt.cells, Pt.slots] at X504 l504 y504 z504 st504 hQ504 hS504 hG504 hC504
  subst l504 y504 z504
  have hZ504 : Z.Warmed39 T504.vm := State.Warmed39.trans (t := s.setVm s.vm) hZ hS504.1
  have hw504 : T504.vm.findClass "com/example/larkbridge/larkbridge/mcp/McpResourceContentsBinaryPinLaw" = some m.cls := by rw [hS504.1.alike.findClass]; exact hown
  have hSn504 : s.Since T504.vm T504.heap.size := hS0.trans hS504 (Nat.le_trans hk0 (by have q := hG504; rw [e0] at q; exact q))
  have X504 : Stand p l e _ (s.setVm T504.vm) m _ below meth c T504 _ _ _ := X504
  obtain ⟨b_504, rfl, N504q, K504, f504_0, f504_1⟩ := hQ504
  have N504 := Fr.app N0 N504q
  have Z505 : n0 ≤ T504.heap.size := Nat.le_trans Z0 K504.1
  have K0_505 : Keep h0 T504.heap [] := (Keep.refl h0 []).trans K504 all0
  have O505 : Old Z n0 T504.heap := X00.keep K504 all0
  have hkw504 : T504.heap.size ≤ T504.heap.size := Nat.le_refl _
  have Rb504 : CHr Z own_EL s.vm h0 T504.vm T504.heap := R0.trans hC504
  have lo_b_504 : h0.size ≤ b_504 := f504_0
  have g_b_504 : n0 ≤ b_504 := Nat.le_trans Z0 lo_b_504
  have l0_b_504 : h0.size ≤ b_504 := Nat.le_trans (Keep.refl h0 []).1 lo_b_504
  obtain ⟨vm_, hvm⟩ : ∃ z : Int32, z = (((p3.toUInt32 >>> ((2 : Int32) &&& 31).toUInt32).toInt32) &&& (7 : Int32)) := ⟨_, rfl⟩
  -- pc 31: com/example/larkbridge/larkbridge/mcp/McpResourceContentsBinaryPinLaw.str
  obtain ⟨_, _, ⟨T506, L506, k506, n506⟩, -, X506, hS506, hG506, ⟨Lc506, hQ506, l506, y506, z506, hC506⟩, st506⟩ := callSS X504 hx (y := y3) hw504 (mvT hZ504 (W 0 rfl)) (mvT hZ504 (W 1 rfl)) (mvT hZ504 (W 2 rfl)) (mvT hZ504 (W 3 rfl)) (by decide) (backOfSH (s := s) (W := 0) (rmstr l Z a0 G1 hG [] p1 (vm_ &&& (3 : Int32)) T504.heap n0 Z505 O505) hZ504 (W 3 rfl) (W 2 rfl) (by decide) (by decide) hEL Rb504.1) (g := (mkF m 31 #[.val (.int p0), .val (.int p1), .val (.int p2), .val (.int p3), .val (.ref b_504), .val (.int vm_), .unset, .unset, .unset, .unset, .unset, .unset, .unset, .unset, .unset, .unset, .unset, .unset, .unset, .unset] [(.int (vm_ &&& (3 : Int32))), (.int p1)])) rfl (by rw [hml]; rfl) (argsL := [(.int p1), (.int (vm_ &&& (3 : Int32)))]) (rest := []) (lenOf pd__II_Ljava_lang_String_ rfl) rfl (by show 2 * 0 + _ ≤ _; exact Nat.le_of_eq rfl) (hb hby at_31) (fun _ _ => ⟨rfl, rfl, (by decide : 6 + 6 ≤ _), (by decide : 12 + 12 ≤ _)⟩)
  dsimp only [Pt.U, Pt.locs, Pt.cells, Pt.slots] at X506 l506 y506 z506 st506 hQ506 hS506 hG506 hC506
  subst l506 y506 z506
  have hZ506 : Z.Warmed39 T506.vm := State.Warmed39.trans (t := s.setVm T504.vm) hZ504 hS506.1
  have hw506 : T506.vm.findClass "com/example/larkbridge/larkbridge/mcp/McpResourceContentsBinaryPinLaw" = some m.cls := by rw [hS506.1.alike.findClass]; exact hw504
  have hSn506 : s.Since T506.vm T506.heap.size := hSn504.trans hS506 (Nat.le_trans hkw504 (hG506))
  have X506 : Stand p l e _ (s.setVm T506.vm) m _ below meth c T506 _ _ _ := X506
  obtain ⟨b_506, rfl, N506q, K506, f506_0, f506_1⟩ := hQ506
  have N506 := Fr.app N504 N506q
  have Z507 : n0 ≤ T506.heap.size := Nat.le_trans Z505 K506.1
  have K0_507 : Keep h0 T506.heap [] := K0_505.trans K506 all0
  have O507 : Old Z n0 T506.heap := O505.keep K506 all0
  have hkw506 : T506.heap.size ≤ T506.heap.size := Nat.le_refl _
  have Rb506 : CHr Z own_EL s.vm h0 T506.vm T506.heap := Rb504.trans hC506
  have lo_b_506 : T504.heap.size ≤ b_506 := f506_0
  have g_b_506 : n0 ≤ b_506 := Nat.le_trans Z505 lo_b_506
  have l0_b_506 : h0.size ≤ b_506 := Nat.le_trans K0_505.1 lo_b_506
  obtain ⟨T508, h508, k508, X508, e508, E508, A508, Q508, st508⟩ := newPE X506 hx hZ506 (W 23 rfl) rfl (g := (mkF m 48 #[.val (.int p0), .val (.int p1), .val (.int p2), .val (.int p3), .val (.ref b_504), .val (.int vm_), .val (.ref b_506), .val (.int (4 : Int32)), .unset, .unset, .unset, .unset, .unset, .unset, .unset, .unset, .unset, .unset, .unset, .unset] [(.int (4 : Int32))])) rfl (hb hby at_48) rfl (by decide) (cap := 4) (by decide) (by decide) (by decide) (by decide) (ad := "[B") rfl
  obtain ⟨b508, g508⟩ : ∃ z, z = T506.heap.size := ⟨_, rfl⟩
  rw [← g508] at A508 Q508 st508
  have Z509 : n0 ≤ h508.size := Nat.le_trans Z507 E508.1
  have K0_509 : Keep h0 h508 [] := K0_507.ext E508
  have O509 : Old Z n0 h508 := O507.ext E508
  have R509 : CHr Z own_EL s.vm h0 T506.vm h508 := Rb506.trans (CHr.ext E508 Rb506.1)
  have hk509 : T506.heap.size ≤ h508.size := Nat.le_trans hkw506 E508.1
  have lo_b508 : T506.heap.size ≤ b508 := Nat.le_of_eq g508.symm
  have g_b508 : n0 ≤ b508 := Nat.le_trans Z507 lo_b508
  have l0_b508 : h0.size ≤ b508 := Nat.le_trans K0_507.1 lo_b508
  have sfb508 : Safe Z own_EL T506.vm h508 b508 := Safe.ext E508 Rb506.1 (Safe.new lo_b508)
  have V_b508 : Arv Z h508 b508 k508 .byte (4 : Int32) [(.int (0 : Int32)), (.int (0 : Int32)), (.int (0 : Int32)), (.int (0 : Int32))] (.int (0 : Int32)) := (Arv.new A508 (by decide)).pad (pad_rep [] (.int (0 : Int32)) 4)
  obtain ⟨clq510, Arq510, qaq510, Sq510, Nq510, Hq510, Gq510⟩ := id V_b508
  have hinq510 : ¬ ((0 : Int32) < 0 ∨ clq510.slots.size ≤ ((0 : Int32)).toNatClampNeg) := inb_of Sq510 ⟨by decide, by decide⟩
  obtain ⟨T511, h511, X511, e511, W511, st511⟩ := stB X508 hx hZ506 e508 Arq510 (j := (0 : Int32)) hinq510 (g := (mkF m 62 #[.val (.int p0), .val (.int p1), .val (.int p2), .val (.int p3), .val (.ref b_504), .val (.int vm_), .val (.ref b_506), .val (.int (4 : Int32)), .val (.ref b508), .unset, .unset, .unset, .unset, .unset, .unset, .unset, .unset, .unset, .unset, .unset] [(.int (p2.toInt8.toInt32)), (.int (0 : Int32)), (.ref b508)])) rfl rfl (hb hby at_62)
  have V511 : Arv Z h511 b508 k508 .byte (4 : Int32) [(.int ((p2.toInt8.toInt32).toInt8.toInt32)), (.int (0 : Int32)), (.int (0 : Int32)), (.int (0 : Int32))] (.int (0 : Int32)) := Arv.set Arq510 qaq510 Sq510 Nq510 Hq510 Gq510 (fits_nar_byte _) W511 0 rfl (Nat.le_of_ble_eq_true rfl)
  have Z512 : n0 ≤ h511.size := Nat.le_trans Z509 (Keep.of_wr W511).1
  have K0_512 : Keep h0 h511 [] := K0_509.wr W511 (Or.inr l0_b508)
  have O512 : Old Z n0 h511 := O509.wr W511 g_b508
  have R512 : CHr Z own_EL s.vm h0 T506.vm h511 := R509.trans (CHr.wr W511 sfb508 R509.1)
  have hk512 : T506.heap.size ≤ h511.size := Nat.le_trans hk509 (Keep.of_wr W511).1
  have sf512_b508 : Safe Z own_EL T506.vm h511 b508 := Safe.wr W511 sfb508 R509.1 sfb508
  have N511 := Fr.snoc X511 N506 g_b508
  obtain ⟨clq513, Arq513, qaq513, Sq513, Nq513, Hq513, Gq513⟩ := id V511
  have hinq513 : ¬ ((1 : Int32) < 0 ∨ clq513.slots.size ≤ ((1 : Int32)).toNatClampNeg) := inb_of Sq513 ⟨by decide, by decide⟩
  obtain ⟨T514, h514, X514, e514, W514, st514⟩ := stB X511 hx hZ506 e511 Arq513 (j := (1 : Int32)) hinq513 (g := (mkF m 77 #[.val (.int p0), .val (.int p1), .val (.int p2), .val (.int p3), .val (.ref b_504), .val (.int vm_), .val (.ref b_506), .val (.int (4 : Int32)), .val (.ref b508), .unset, .unset, .unset, .unset, .unset, .unset, .unset, .unset, .unset, .unset, .unset] [(.int (((p2.toUInt32 >>> ((8 : Int32) &&& 31).toUInt32).toInt32).toInt8.toInt32)), (.int (1 : Int32)), (.ref b508)])) rfl rfl (hb hby at_77)
  have V514 : Arv Z h514 b508 k508 .byte (4 : Int32) [(.int ((p2.toInt8.toInt32).toInt8.toInt32)), (.int ((((p2.toUInt32 >>> ((8 : Int32) &&& 31).toUInt32).toInt32).toInt8.toInt32).toInt8.toInt32)), (.int (0 : Int32)), (.int (0 : Int32))] (.int (0 : Int32)) := Arv.set Arq513 qaq513 Sq513 Nq513 Hq513 Gq513 (fits_nar_byte _) W514 1 rfl (Nat.le_of_ble_eq_true rfl)
  have Z515 : n0 ≤ h514.size := Nat.le_trans Z512 (Keep.of_wr W514).1
  have K0_515 : Keep h0 h514 [] := K0_512.wr W514 (Or.inr l0_b508)
  have O515 : Old Z n0 h514 := O512.wr W514 g_b508
  have R515 : CHr Z own_EL s.vm h0 T506.vm h514 := R512.trans (CHr.wr W514 sf512_b508 R512.1)
  have hk515 : T506.heap.size ≤ h514.size := Nat.le_trans hk512 (Keep.of_wr W514).1
  have sf515_b508 : Safe Z own_EL T506.vm h514 b508 := Safe.wr W514 sf512_b508 R512.1 sf512_b508
  have N514 := Fr.snoc X514 N511 g_b508
  obtain ⟨clq516, Arq516, qaq516, Sq516, Nq516, Hq516, Gq516⟩ := id V514
  have hinq516 : ¬ ((2 : Int32) < 0 ∨ clq516.slots.size ≤ ((2 : Int32)).toNatClampNeg) := inb_of Sq516 ⟨by decide, by decide⟩
  obtain ⟨T517, h517, X517, e517, W517, st517⟩ := stB X514 hx hZ506 e514 Arq516 (j := (2 : Int32)) hinq516 (g := (mkF m 92 #[.val (.int p0), .val (.int p1), .val (.int p2), .val (.int p3), .val (.ref b_504), .val (.int vm_), .val (.ref b_506), .val (.int (4 : Int32)), .val (.ref b508), .unset, .unset, .unset, .unset, .unset, .unset, .unset, .unset, .unset, .unset, .unset] [(.int (((p2.toUInt32 >>> ((16 : Int32) &&& 31).toUInt32).toInt32).toInt8.toInt32)), (.int (2 : Int32)), (.ref b508)])) rfl rfl (hb hby at_92)
  have V517 : Arv Z h517 b508 k508 .byte (4 : Int32) [(.int ((p2.toInt8.toInt32).toInt8.toInt32)), (.int ((((p2.toUInt32 >>> ((8 : Int32) &&& 31).toUInt32).toInt32).toInt8.toInt32).toInt8.toInt32)), (.int ((((p2.toUInt32 >>> ((16 : Int32) &&& 31).toUInt32).toInt32).toInt8.toInt32).toInt8.toInt32)), (.int (0 : Int32))] (.int (0 : Int32)) := Arv.set Arq516 qaq516 Sq516 Nq516 Hq516 Gq516 (fits_nar_byte _) W517 2 rfl (Nat.le_of_ble_eq_true rfl)
  have Z518 : n0 ≤ h517.size := Nat.le_trans Z515 (Keep.of_wr W517).1
  have K0_518 : Keep h0 h517 [] := K0_515.wr W517 (Or.inr l0_b508)
  have O518 : Old Z n0 h517 := O515.wr W517 g_b508
  have R518 : CHr Z own_EL s.vm h0 T506.vm h517 := R515.trans (CHr.wr W517 sf515_b508 R515.1)
  have hk518 : T506.heap.size ≤ h517.size := Nat.le_trans hk515 (Keep.of_wr W517).1
  have sf518_b508 : Safe Z own_EL T506.vm h517 b508 := Safe.wr W517 sf515_b508 R515.1 sf515_b508
  have N517 := Fr.snoc X517 N514 g_b508
  obtain ⟨clq519, Arq519, qaq519, Sq519, Nq519, Hq519, Gq519⟩ := id V517
  have hinq519 : ¬ ((3 : Int32) < 0 ∨ clq519.slots.size ≤ ((3 : Int32)).toNatClampNeg) := inb_of Sq519 ⟨by decide, by decide⟩
  obtain ⟨T520, h520, X520, e520, W520, st520⟩ := stB X517 hx hZ506 e517 Arq519 (j := (3 : Int32)) hinq519 (g := (mkF m 107 #[.val (.int p0), .val (.int p1), .val (.int p2), .val (.int p3), .val (.ref b_504), .val (.int vm_), .val (.ref b_506), .val (.int (4 : Int32)), .val (.ref b508), .unset, .unset, .unset, .unset, .unset, .unset, .unset, .unset, .unset, .unset, .unset] [(.int (((p2.toUInt32 >>> ((24 : Int32) &&& 31).toUInt32).toInt32).toInt8.toInt32)), (.int (3 : Int32)), (.ref b508)])) rfl rfl (hb hby at_107)
  have V520 : Arv Z h520 b508 k508 .byte (4 : Int32) [(.int ((p2.toInt8.toInt32).toInt8.toInt32)), (.int ((((p2.toUInt32 >>> ((8 : Int32) &&& 31).toUInt32).toInt32).toInt8.toInt32).toInt8.toInt32)), (.int ((((p2.toUInt32 >>> ((16 : Int32) &&& 31).toUInt32).toInt32).toInt8.toInt32).toInt8.toInt32)), (.int ((((p2.toUInt32 >>> ((24 : Int32) &&& 31).toUInt32).toInt32).toInt8.toInt32).toInt8.toInt32))] (.int (0 : Int32)) := Arv.set Arq519 qaq519 Sq519 Nq519 Hq519 Gq519 (fits_nar_byte _) W520 3 rfl (Nat.le_of_ble_eq_true rfl)
  have Z521 : n0 ≤ h520.size := Nat.le_trans Z518 (Keep.of_wr W520).1
  have K0_521 : Keep h0 h520 [] := K0_518.wr W520 (Or.inr l0_b508)
  have O521 : Old Z n0 h520 := O518.wr W520 g_b508
  have R521 : CHr Z own_EL s.vm h0 T506.vm h520 := R518.trans (CHr.wr W520 sf518_b508 R518.1)
  have hk521 : T506.heap.size ≤ h520.size := Nat.le_trans hk518 (Keep.of_wr W520).1
  have sf521_b508 : Safe Z own_EL T506.vm h520 b508 := Safe.wr W520 sf518_b508 R518.1 sf518_b508
  have N520 := Fr.snoc X520 N517 g_b508
  have f523 := ((((((f504_1.keep K506).ext E508).wr W511).wr W514).wr W517).wr W520)
  have f524 := ((((Q508.wr W511).wr W514).wr W517).wr W520)
  -- pc 114: com/example/larkbridge/larkbridge/mcp/McpResourceContents.binary
  obtain ⟨_, _, ⟨T522, L522, k522, n522⟩, -, X522, hS522, hG522, ⟨Lc522, hQ522, l522, y522, z522, hC522⟩, st522⟩ := callSS X520 hx (y := y5) hw506 (mvT hZ506 (W 34 rfl)) (mvT hZ506 (W 35 rfl)) (mvT hZ506 (W 36 rfl)) (mvT hZ506 (W 37 rfl)) (by decide) (backOfSH (s := s) (W := 0) (rmmcb l Z a0 G1 hG [] b_504 (.ref b_506) b508 k508 (4 : Int32) ([(.int ((p2.toInt8.toInt32).toInt8.toInt32)), (.int ((((p2.toUInt32 >>> ((8 : Int32) &&& 31).toUInt32).toInt32).toInt8.toInt32).toInt8.toInt32)), (.int ((((p2.toUInt32 >>> ((16 : Int32) &&& 31).toUInt32).toInt32).toInt8.toInt32).toInt8.toInt32)), (.int ((((p2.toUInt32 >>> ((24 : Int32) &&& 31).toUInt32).toInt32).toInt8.toInt32).toInt8.toInt32))] : List Value) h520 n0 Z521 O521 f523 f524 V520 rfl (by decide)) hZ506 (W 37 rfl) (W 36 rfl) (by decide) (by decide) hEL R521.1) (g := (mkF m 114 #[.val (.int p0), .val (.int p1), .val (.int p2), .val (.int p3), .val (.ref b_504), .val (.int vm_), .val (.ref b_506), .val (.int (4 : Int32)), .val (.ref b508), .unset, .unset, .unset, .unset, .unset, .unset, .unset, .unset, .unset, .unset, .unset] [(.ref b508), (.ref b_506), (.ref b_504)])) rfl (by rw [hml]; rfl) (argsL := [(.ref b_504), (.ref b_506), (.ref b508)]) (rest := []) (lenOf pd__Ljava_lang_String_Ljava_lang_String__B_Lcom_example_larkbridge_larkbridge_mcp_McpResourceContents_ rfl) rfl (by show 2 * 0 + _ ≤ _; exact Nat.le_of_eq rfl) (hb hby at_114) (fun _ _ => ⟨rfl, e520, (by decide : 13 + 4 ≤ _), (by decide : 28 + 24 ≤ _)⟩)
  dsimp only [Pt.U, Pt.locs, Pt.cells, Pt.slots] at X522 l522 y522 z522 st522 hQ522 hS522 hG522 hC522
  subst l522 y522 z522
  have hZ522 : Z.Warmed39 T522.vm := State.Warmed39.trans (t := s.setVm T506.vm) hZ506 hS522.1
  have hw522 : T522.vm.findClass "com/example/larkbridge/larkbridge/mcp/McpResourceContentsBinaryPinLaw" = some m.cls := by rw [hS522.1.alike.findClass]; exact hw506
  have hSn522 : s.Since T522.vm T522.heap.size := hSn506.trans hS522 (Nat.le_trans hk521 (by have q := hG522; rw [e520] at q; exact q))
  have X522 : Stand p l e _ (s.setVm T522.vm) m _ below meth c T522 _ _ _ := X522
  obtain ⟨b_522, c_522, rfl, N522q, K522, f522_0, f522_1, f522_2, f522_3, f522_4, f522_5, f522_6, f522_7, f522_8⟩ := hQ522
  have N522 := Fr.app N520 N522q
  have Z525 : n0 ≤ T522.heap.size := Nat.le_trans Z521 K522.1
  have K0_525 : Keep h0 T522.heap [] := K0_521.trans K522 all0
  have O525 : Old Z n0 T522.heap := O521.keep K522 all0
  have hkw522 : T522.heap.size ≤ T522.heap.size := Nat.le_refl _
  have sfw525_b508 : Safe Z own_EL T522.vm T522.heap b508 := hC522.safe f524.lt sf521_b508
  have Rb522 : CHr Z own_EL s.vm h0 T522.vm T522.heap := R521.trans hC522
  have lo_b_522 : h520.size ≤ b_522 := f522_0
  have g_b_522 : n0 ≤ b_522 := Nat.le_trans Z521 lo_b_522
  have l0_b_522 : h0.size ≤ b_522 := Nat.le_trans K0_521.1 lo_b_522
  have lo_c_522 : h520.size ≤ c_522 := f522_1
  have g_c_522 : n0 ≤ c_522 := Nat.le_trans Z521 lo_c_522
  have l0_c_522 : h0.size ≤ c_522 := Nat.le_trans K0_521.1 lo_c_522
  have f526 := (V520.keep K522 nin0)
  obtain ⟨clq527, Arq527, qaq527, Sq527, Nq527, Hq527, Gq527⟩ := id f526
  have hinq527 : ¬ ((0 : Int32) < 0 ∨ clq527.slots.size ≤ ((0 : Int32)).toNatClampNeg) := inb_of Sq527 ⟨by decide, by decide⟩
  have hatq527 : clq527.slots[((0 : Int32)).toNatClampNeg]? = some (.int ((p2.toInt8.toInt32).toInt8.toInt32)) := Has.at Hq527 hinq527 rfl
  obtain ⟨clq528, Arq528, qaq528, Sq528, Nq528, Hq528, Gq528⟩ := id f526
  have hinq528 : ¬ ((0 : Int32) < 0 ∨ clq528.slots.size ≤ ((0 : Int32)).toNatClampNeg) := inb_of Sq528 ⟨by decide, by decide⟩
  obtain ⟨T529, h529, X529, e529, W529, st529⟩ := stB X522 hx hZ522 rfl Arq528 (j := (0 : Int32)) hinq528 (g := (mkF m 134 #[.val (.int p0), .val (.int p1), .val (.int p2), .val (.int p3), .val (.ref b_504), .val (.int vm_), .val (.ref b_506), .val (.int (4 : Int32)), .val (.ref b508), .val (.ref b_522), .unset, .unset, .unset, .unset, .unset, .unset, .unset, .unset, .unset, .unset] [(.int ((((p2.toInt8.toInt32).toInt8.toInt32) ^^^ (-1 : Int32)).toInt8.toInt32)), (.int (0 : Int32)), (.ref b508)])) rfl rfl (hb hby at_134)
  have V529 : Arv Z h529 b508 k508 .byte (4 : Int32) [(.int (((((p2.toInt8.toInt32).toInt8.toInt32) ^^^ (-1 : Int32)).toInt8.toInt32).toInt8.toInt32)), (.int ((((p2.toUInt32 >>> ((8 : Int32) &&& 31).toUInt32).toInt32).toInt8.toInt32).toInt8.toInt32)), (.int ((((p2.toUInt32 >>> ((16 : Int32) &&& 31).toUInt32).toInt32).toInt8.toInt32).toInt8.toInt32)), (.int ((((p2.toUInt32 >>> ((24 : Int32) &&& 31).toUInt32).toInt32).toInt8.toInt32).toInt8.toInt32))] (.int (0 : Int32)) := Arv.set Arq528 qaq528 Sq528 Nq528 Hq528 Gq528 (fits_nar_byte _) W529 0 rfl (Nat.le_of_ble_eq_true rfl)
  have Z530 : n0 ≤ h529.size := Nat.le_trans Z525 (Keep.of_wr W529).1
  have K0_530 : Keep h0 h529 [] := K0_525.wr W529 (Or.inr l0_b508)
  have O530 : Old Z n0 h529 := O525.wr W529 g_b508
  have R530 : CHr Z own_EL s.vm h0 T522.vm h529 := Rb522.trans (CHr.wr W529 sfw525_b508 Rb522.1)
  have hk530 : T522.heap.size ≤ h529.size := Nat.le_trans hkw522 (Keep.of_wr W529).1
  have sf530_b508 : Safe Z own_EL T522.vm h529 b508 := Safe.wr W529 sfw525_b508 Rb522.1 sfw525_b508
  have N529 := Fr.snoc X529 N522 g_b508
  obtain ⟨clq531, Arq531, qaq531, Sq531, Nq531, Hq531, Gq531⟩ := id V529
  have hinq531 : ¬ ((3 : Int32) < 0 ∨ clq531.slots.size ≤ ((3 : Int32)).toNatClampNeg) := inb_of Sq531 ⟨by decide, by decide⟩
  have hatq531 : clq531.slots[((3 : Int32)).toNatClampNeg]? = some (.int ((((p2.toUInt32 >>> ((24 : Int32) &&& 31).toUInt32).toInt32).toInt8.toInt32).toInt8.toInt32)) := Has.at Hq531 hinq531 rfl
  obtain ⟨clq532, Arq532, qaq532, Sq532, Nq532, Hq532, Gq532⟩ := id V529
  have hinq532 : ¬ ((3 : Int32) < 0 ∨ clq532.slots.size ≤ ((3 : Int32)).toNatClampNeg) := inb_of Sq532 ⟨by decide, by decide⟩
  obtain ⟨T533, h533, X533, e533, W533, st533⟩ := stB X529 hx hZ522 e529 Arq532 (j := (3 : Int32)) hinq532 (g := (mkF m 151 #[.val (.int p0), .val (.int p1), .val (.int p2), .val (.int p3), .val (.ref b_504), .val (.int vm_), .val (.ref b_506), .val (.int (4 : Int32)), .val (.ref b508), .val (.ref b_522), .unset, .unset, .unset, .unset, .unset, .unset, .unset, .unset, .unset, .unset] [(.int ((((((p2.toUInt32 >>> ((24 : Int32) &&& 31).toUInt32).toInt32).toInt8.toInt32).toInt8.toInt32) ^^^ (-1 : Int32)).toInt8.toInt32)), (.int (3 : Int32)), (.ref b508)])) rfl rfl (hb hby at_151)
  have V533 : Arv Z h533 b508 k508 .byte (4 : Int32) [(.int (((((p2.toInt8.toInt32).toInt8.toInt32) ^^^ (-1 : Int32)).toInt8.toInt32).toInt8.toInt32)), (.int ((((p2.toUInt32 >>> ((8 : Int32) &&& 31).toUInt32).toInt32).toInt8.toInt32).toInt8.toInt32)), (.int ((((p2.toUInt32 >>> ((16 : Int32) &&& 31).toUInt32).toInt32).toInt8.toInt32).toInt8.toInt32)), (.int (((((((p2.toUInt32 >>> ((24 : Int32) &&& 31).toUInt32).toInt32).toInt8.toInt32).toInt8.toInt32) ^^^ (-1 : Int32)).toInt8.toInt32).toInt8.toInt32))] (.int (0 : Int32)) := Arv.set Arq532 qaq532 Sq532 Nq532 Hq532 Gq532 (fits_nar_byte _) W533 3 rfl (Nat.le_of_ble_eq_true rfl)
  have Z534 : n0 ≤ h533.size := Nat.le_trans Z530 (Keep.of_wr W533).1
  have K0_534 : Keep h0 h533 [] := K0_530.wr W533 (Or.inr l0_b508)
  have O534 : Old Z n0 h533 := O530.wr W533 g_b508
  have R534 : CHr Z own_EL s.vm h0 T522.vm h533 := R530.trans (CHr.wr W533 sf530_b508 R530.1)
  have hk534 : T522.heap.size ≤ h533.size := Nat.le_trans hk530 (Keep.of_wr W533).1
  have sf534_b508 : Safe Z own_EL T522.vm h533 b508 := Safe.wr W533 sf530_b508 R530.1 sf530_b508
  have N533 := Fr.snoc X533 N529 g_b508
  have f536 := ((f522_8.other W529 (Or.inl (Ne.symm (Nat.ne_of_lt (Nat.lt_of_lt_of_le f524.lt lo_b_522))))).other W533 (Or.inl (Ne.symm (Nat.ne_of_lt (Nat.lt_of_lt_of_le f524.lt lo_b_522)))))
  have f537 := ((f522_3.wr W529).wr W533)
  have f538 := ((f522_4.other W529 (Ne.symm (Nat.ne_of_lt (Nat.lt_of_lt_of_le f524.lt lo_c_522)))).other W533 (Ne.symm (Nat.ne_of_lt (Nat.lt_of_lt_of_le f524.lt lo_c_522))))
  have f539 := ((f522_2.wr W529).wr W533)
  obtain ⟨cq535, kq535, q535a, q535b, q535c⟩ := isOf hZ522 e533 f539
  -- pc 154: com/example/larkbridge/larkbridge/mcp/McpResourceContents.bytes
  obtain ⟨_, _, ⟨T535, L535, k535, n535⟩, -, X535, ⟨Lc535, hQ535, l535, y535, z535⟩, st535⟩ := X533.virtualBack hx (y := y6) (z := y6) hw522 (mvT hZ522 (W 69 rfl)) (mvT hZ522 (W 70 rfl)) (notFace_of_selects (args := #[]) (mvT hZ522 (W 72 rfl))) (mvT hZ522 (W 72 rfl)) (mvT hZ522 (W 71 rfl)) (by decide) (backOf (W := 0) (rmbyt l Z a0 G1 hG [] b_522 c_522 k508 (4 : Int32) ([(.int ((p2.toInt8.toInt32).toInt8.toInt32)), (.int ((((p2.toUInt32 >>> ((8 : Int32) &&& 31).toUInt32).toInt32).toInt8.toInt32).toInt8.toInt32)), (.int ((((p2.toUInt32 >>> ((16 : Int32) &&& 31).toUInt32).toInt32).toInt8.toInt32).toInt8.toInt32)), (.int ((((p2.toUInt32 >>> ((24 : Int32) &&& 31).toUInt32).toInt32).toInt8.toInt32).toInt8.toInt32))] : List Value) h533 n0 Z534 O534 f536 f537 f538 (by decide)) hZ522 (W 73 rfl) (W 36 rfl) (by decide) (by decide)) q535a q535c (g := (mkF m 154 #[.val (.int p0), .val (.int p1), .val (.int p2), .val (.int p3), .val (.ref b_504), .val (.int vm_), .val (.ref b_506), .val (.int (4 : Int32)), .val (.ref b508), .val (.ref b_522), .unset, .unset, .unset, .unset, .unset, .unset, .unset, .unset, .unset, .unset] [(.ref b_522)])) rfl (by rw [hml]; rfl) (Steps.refl _) (argsL := []) (rest := []) (lenOf pd____B rfl) rfl (by show 2 * 0 + _ ≤ _; exact Nat.le_of_eq rfl) (hb hby at_154) (fun _ _ => ⟨rfl, e533, (by decide : 17 + 1 ≤ _), (by decide : 52 + 4 ≤ _)⟩)
  dsimp only [Pt.U, Pt.locs, Pt.cells, Pt.slots] at X535 l535 y535 z535 st535 hQ535
  subst l535 y535 z535
  obtain ⟨c_535, rfl, N535q, K535, f535_0, f535_1, f535_2⟩ := hQ535
  have N535 := Fr.app N533 N535q
  have Z540 : n0 ≤ T535.heap.size := Nat.le_trans Z534 K535.1
  have K0_540 : Keep h0 T535.heap [] := K0_534.trans K535 all0
  have O540 : Old Z n0 T535.heap := O534.keep K535 all0
  have R540 : CHr Z own_EL s.vm h0 T522.vm T535.heap := R534.trans (CHr.keep K535 sf0 R534.1)
  have hk540 : T522.heap.size ≤ T535.heap.size := Nat.le_trans hk534 K535.1
  have sf540_b508 : Safe Z own_EL T522.vm T535.heap b508 := Safe.keep K535 sf0 R534.1 sf534_b508
  have lo_c_535 : h533.size ≤ c_535 := f535_0
  have g_c_535 : n0 ≤ c_535 := Nat.le_trans Z534 lo_c_535
  have l0_c_535 : h0.size ≤ c_535 := Nat.le_trans K0_534.1 lo_c_535
  have sfc535 : Safe Z own_EL T522.vm T535.heap c_535 := Safe.keep K535 sf0 R534.1 (Safe.new lo_c_535)
  -- pc 164: com/example/larkbridge/larkbridge/mcp/McpResourceContentsBinaryPinLaw.same
  obtain ⟨_, _, ⟨T541, L541, k541, n541⟩, -, X541, ⟨Lc541, hQ541, l541, y541, z541⟩, st541⟩ := Jvm.LawKit.callS X535 hx (y := y12) hw522 (mvT hZ522 (W 74 rfl)) (mvT hZ522 (W 75 rfl)) (mvT hZ522 (W 2 rfl)) (mvT hZ522 (W 76 rfl)) (by decide) (backOf (W := 0) (rmsame4 l Z a0 G1 hG [] c_535 p2 k508 T535.heap n0 Z540 O540 f535_2) hZ522 (W 76 rfl) (W 2 rfl) (by decide) (by decide)) (g := (mkF m 164 #[.val (.int p0), .val (.int p1), .val (.int p2), .val (.int p3), .val (.ref b_504), .val (.int vm_), .val (.ref b_506), .val (.int (4 : Int32)), .val (.ref b508), .val (.ref b_522), .val (.ref c_535), .unset, .unset, .unset, .unset, .unset, .unset, .unset, .unset, .unset] [(.int p2), (.int (4 : Int32)), (.ref c_535)])) rfl (by rw [hml]; rfl) (argsL := [(.ref c_535), (.int (4 : Int32)), (.int p2)]) (rest := []) (lenOf pd___BII_Z rfl) rfl (by show 2 * 0 + _ ≤ _; exact Nat.le_of_eq rfl) (hb hby at_164) (fun _ _ => ⟨rfl, rfl, (by decide : 18 + 0 ≤ _), (by decide : 56 + 0 ≤ _)⟩)
  dsimp only [Pt.U, Pt.locs, Pt.cells, Pt.slots] at X541 l541 y541 z541 st541 hQ541
  subst l541 y541 z541
  obtain ⟨rfl, N541q, eq541⟩ := hQ541
  have N541 := Fr.app N535 N541q
  obtain ⟨clq542, Arq542, qaq542, Sq542, Nq542, Hq542, Gq542⟩ := id f535_2
  obtain ⟨clq543, Arq543, qaq543, Sq543, Nq543, Hq543, Gq543⟩ := id f535_2
  have hinq543 : ¬ ((0 : Int32) < 0 ∨ clq543.slots.size ≤ ((0 : Int32)).toNatClampNeg) := inb_of Sq543 ⟨by decide, by decide⟩
  have hatq543 : clq543.slots[((0 : Int32)).toNatClampNeg]? = some (.int ((p2.toInt8.toInt32).toInt8.toInt32)) := Has.at Hq543 hinq543 rfl
  obtain ⟨clq544, Arq544, qaq544, Sq544, Nq544, Hq544, Gq544⟩ := id f535_2
  have hinq544 : ¬ ((0 : Int32) < 0 ∨ clq544.slots.size ≤ ((0 : Int32)).toNatClampNeg) := inb_of Sq544 ⟨by decide, by decide⟩
  obtain ⟨T545, h545, X545, e545, W545, st545⟩ := stB X541 hx hZ522 eq541 Arq544 (j := (0 : Int32)) hinq544 (g := (mkF m 190 #[.val (.int p0), .val (.int p1), .val (.int p2), .val (.int p3), .val (.ref b_504), .val (.int vm_), .val (.ref b_506), .val (.int (4 : Int32)), .val (.ref b508), .val (.ref b_522), .val (.ref c_535), .val (.int (1 : Int32)), .unset, .unset, .unset, .unset, .unset, .unset, .unset, .unset] [(.int ((((p2.toInt8.toInt32).toInt8.toInt32) ^^^ (-1 : Int32)).toInt8.toInt32)), (.int (0 : Int32)), (.ref c_535)])) rfl rfl (hb hby at_190)
  have V545 : Arv Z h545 c_535 k508 .byte (4 : Int32) [(.int (((((p2.toInt8.toInt32).toInt8.toInt32) ^^^ (-1 : Int32)).toInt8.toInt32).toInt8.toInt32)), (.int ((((p2.toUInt32 >>> ((8 : Int32) &&& 31).toUInt32).toInt32).toInt8.toInt32).toInt8.toInt32)), (.int ((((p2.toUInt32 >>> ((16 : Int32) &&& 31).toUInt32).toInt32).toInt8.toInt32).toInt8.toInt32)), (.int ((((p2.toUInt32 >>> ((24 : Int32) &&& 31).toUInt32).toInt32).toInt8.toInt32).toInt8.toInt32))] (.int (0 : Int32)) := Arv.set Arq544 qaq544 Sq544 Nq544 Hq544 Gq544 (fits_nar_byte _) W545 0 rfl (Nat.le_of_ble_eq_true rfl)
  have Z546 : n0 ≤ h545.size := Nat.le_trans Z540 (Keep.of_wr W545).1
  have K0_546 : Keep h0 h545 [] := K0_540.wr W545 (Or.inr l0_c_535)
  have O546 : Old Z n0 h545 := O540.wr W545 g_c_535
  have R546 : CHr Z own_EL s.vm h0 T522.vm h545 := R540.trans (CHr.wr W545 sfc535 R540.1)
  have hk546 : T522.heap.size ≤ h545.size := Nat.le_trans hk540 (Keep.of_wr W545).1
  have sf546_b508 : Safe Z own_EL T522.vm h545 b508 := Safe.wr W545 sfc535 R540.1 sf540_b508
  have sf546_c_535 : Safe Z own_EL T522.vm h545 c_535 := Safe.wr W545 sfc535 R540.1 sfc535
  have N545 := Fr.snoc X545 N541 g_c_535
  have f548 := ((f536.keep K535 nin0).other W545 (Or.inl (Nat.ne_of_lt (Nat.lt_of_lt_of_le f539.lt lo_c_535))))
  have f549 := ((f537.keep K535).wr W545)
  have f550 := ((f538.keep K535 nin0).other W545 (Nat.ne_of_lt (Nat.lt_of_lt_of_le f537.lt lo_c_535)))
  have f551 := ((f539.keep K535).wr W545)
  obtain ⟨cq547, kq547, q547a, q547b, q547c⟩ := isOf hZ522 e545 f551
  -- pc 193: com/example/larkbridge/larkbridge/mcp/McpResourceContents.bytes
  obtain ⟨_, _, ⟨T547, L547, k547, n547⟩, -, X547, ⟨Lc547, hQ547, l547, y547, z547⟩, st547⟩ := X545.virtualBack hx (y := y6) (z := y6) hw522 (mvT hZ522 (W 69 rfl)) (mvT hZ522 (W 70 rfl)) (notFace_of_selects (args := #[]) (mvT hZ522 (W 72 rfl))) (mvT hZ522 (W 72 rfl)) (mvT hZ522 (W 71 rfl)) (by decide) (backOf (W := 0) (rmbyt l Z a0 G1 hG [] b_522 c_522 k508 (4 : Int32) ([(.int ((p2.toInt8.toInt32).toInt8.toInt32)), (.int ((((p2.toUInt32 >>> ((8 : Int32) &&& 31).toUInt32).toInt32).toInt8.toInt32).toInt8.toInt32)), (.int ((((p2.toUInt32 >>> ((16 : Int32) &&& 31).toUInt32).toInt32).toInt8.toInt32).toInt8.toInt32)), (.int ((((p2.toUInt32 >>> ((24 : Int32) &&& 31).toUInt32).toInt32).toInt8.toInt32).toInt8.toInt32))] : List Value) h545 n0 Z546 O546 f548 f549 f550 (by decide)) hZ522 (W 73 rfl) (W 36 rfl) (by decide) (by decide)) q547a q547c (g := (mkF m 193 #[.val (.int p0), .val (.int p1), .val (.int p2), .val (.int p3), .val (.ref b_504), .val (.int vm_), .val (.ref b_506), .val (.int (4 : Int32)), .val (.ref b508), .val (.ref b_522), .val (.ref c_535), .val (.int (1 : Int32)), .unset, .unset, .unset, .unset, .unset, .unset, .unset, .unset] [(.ref b_522)])) rfl (by rw [hml]; rfl) (Steps.refl _) (argsL := []) (rest := []) (lenOf pd____B rfl) rfl (by show 2 * 0 + _ ≤ _; exact Nat.le_of_eq rfl) (hb hby at_193) (fun _ _ => ⟨rfl, e545, (by decide : 18 + 1 ≤ _), (by decide : 56 + 4 ≤ _)⟩)
  dsimp only [Pt.U, Pt.locs, Pt.cells, Pt.slots] at X547 l547 y547 z547 st547 hQ547
  subst l547 y547 z547
  obtain ⟨c_547, rfl, N547q, K547, f547_0, f547_1, f547_2⟩ := hQ547
  have N547 := Fr.app N545 N547q
  have Z552 : n0 ≤ T547.heap.size := Nat.le_trans Z546 K547.1
  have K0_552 : Keep h0 T547.heap [] := K0_546.trans K547 all0
  have O552 : Old Z n0 T547.heap := O546.keep K547 all0
  have R552 : CHr Z own_EL s.vm h0 T522.vm T547.heap := R546.trans (CHr.keep K547 sf0 R546.1)
  have hk552 : T522.heap.size ≤ T547.heap.size := Nat.le_trans hk546 K547.1
  have sf552_b508 : Safe Z own_EL T522.vm T547.heap b508 := Safe.keep K547 sf0 R546.1 sf546_b508
  have sf552_c_535 : Safe Z own_EL T522.vm T547.heap c_535 := Safe.keep K547 sf0 R546.1 sf546_c_535
  have lo_c_547 : h545.size ≤ c_547 := f547_0
  have g_c_547 : n0 ≤ c_547 := Nat.le_trans Z546 lo_c_547
  have l0_c_547 : h0.size ≤ c_547 := Nat.le_trans K0_546.1 lo_c_547
  have sfc547 : Safe Z own_EL T522.vm T547.heap c_547 := Safe.keep K547 sf0 R546.1 (Safe.new lo_c_547)
  -- pc 203: com/example/larkbridge/larkbridge/mcp/McpResourceContentsBinaryPinLaw.same
  obtain ⟨_, _, ⟨T553, L553, k553, n553⟩, -, X553, ⟨Lc553, hQ553, l553, y553, z553⟩, st553⟩ := Jvm.LawKit.callS X547 hx (y := y12) hw522 (mvT hZ522 (W 74 rfl)) (mvT hZ522 (W 75 rfl)) (mvT hZ522 (W 2 rfl)) (mvT hZ522 (W 76 rfl)) (by decide) (backOf (W := 0) (rmsame4 l Z a0 G1 hG [] c_547 p2 k508 T547.heap n0 Z552 O552 f547_2) hZ522 (W 76 rfl) (W 2 rfl) (by decide) (by decide)) (g := (mkF m 203 #[.val (.int p0), .val (.int p1), .val (.int p2), .val (.int p3), .val (.ref b_504), .val (.int vm_), .val (.ref b_506), .val (.int (4 : Int32)), .val (.ref b508), .val (.ref b_522), .val (.ref c_535), .val (.int (1 : Int32)), .val (.ref c_547), .unset, .unset, .unset, .unset, .unset, .unset, .unset] [(.int p2), (.int (4 : Int32)), (.ref c_547)])) rfl (by rw [hml]; rfl) (argsL := [(.ref c_547), (.int (4 : Int32)), (.int p2)]) (rest := []) (lenOf pd___BII_Z rfl) rfl (by show 2 * 0 + _ ≤ _; exact Nat.le_of_eq rfl) (hb hby at_203) (fun _ _ => ⟨rfl, rfl, (by decide : 19 + 0 ≤ _), (by decide : 60 + 0 ≤ _)⟩)
  dsimp only [Pt.U, Pt.locs, Pt.cells, Pt.slots] at X553 l553 y553 z553 st553 hQ553
  subst l553 y553 z553
  obtain ⟨rfl, N553q, eq553⟩ := hQ553
  have N553 := Fr.app N547 N553q
  have f555 := (((((f522_5.other W529 (Or.inl (Ne.symm (Nat.ne_of_lt (Nat.lt_of_lt_of_le f524.lt lo_b_522))))).other W533 (Or.inl (Ne.symm (Nat.ne_of_lt (Nat.lt_of_lt_of_le f524.lt lo_b_522))))).keep K535 nin0).other W545 (Or.inl (Nat.ne_of_lt (Nat.lt_of_lt_of_le f539.lt lo_c_535)))).keep K547 nin0)
  have f556 := (f551.keep K547)
  obtain ⟨cq554, kq554, q554a, q554b, q554c⟩ := isOf hZ522 eq553 f556
  -- pc 210: com/example/larkbridge/larkbridge/mcp/McpResourceContents.uri
  obtain ⟨_, _, ⟨T554, L554, k554, n554⟩, -, X554, ⟨Lc554, hQ554, l554, y554, z554⟩, st554⟩ := X553.virtualBack hx (y := y7) (z := y7) hw522 (mvT hZ522 (W 77 rfl)) (mvT hZ522 (W 78 rfl)) (notFace_of_selects (args := #[]) (mvT hZ522 (W 80 rfl))) (mvT hZ522 (W 80 rfl)) (mvT hZ522 (W 79 rfl)) (by decide) (backOf (W := 0) (rmG_McpResourceContents_uri l Z a0 G1 hG [] b_522 (.ref b_504) T547.heap n0 Z552 O552 f555 rfl) hZ522 (W 81 rfl) (W 36 rfl) (by decide) (by decide)) q554a q554c (g := (mkF m 210 #[.val (.int p0), .val (.int p1), .val (.int p2), .val (.int p3), .val (.ref b_504), .val (.int vm_), .val (.ref b_506), .val (.int (4 : Int32)), .val (.ref b508), .val (.ref b_522), .val (.ref c_535), .val (.int (1 : Int32)), .val (.ref c_547), .val (.int (1 : Int32)), .unset, .unset, .unset, .unset, .unset, .unset] [(.ref b_522)])) rfl (by rw [hml]; rfl) (Steps.refl _) (argsL := []) (rest := []) (lenOf pd___Ljava_lang_String_ rfl) rfl (by show 2 * 0 + _ ≤ _; exact Nat.le_of_eq rfl) (hb hby at_210) (fun _ _ => ⟨rfl, eq553, (by decide : 19 + 0 ≤ _), (by decide : 60 + 0 ≤ _)⟩)
  dsimp only [Pt.U, Pt.locs, Pt.cells, Pt.slots] at X554 l554 y554 z554 st554 hQ554
  subst l554 y554 z554
  obtain ⟨rfl, N554q, eq554⟩ := hQ554
  have N554 := Fr.app N553 N554q
  have f558 := ((((((f523.keep K522).wr W529).wr W533).keep K535).wr W545).keep K547)
  obtain ⟨cq557, kq557, q557a, q557b, q557c⟩ := isOf hZ522 eq554 f558
  -- pc 219: java/lang/String.equals
  obtain ⟨_, _, ⟨T557, L557, k557, n557⟩, -, X557, ⟨Lc557, hQ557, l557, y557, z557⟩, st557⟩ := X554.virtualBack hx (y := y11) (z := y11) hw522 (mvT hZ522 (W 82 rfl)) (mvT hZ522 (W 83 rfl)) (notFace_of_selects (args := #[]) (mvT hZ522 (W 85 rfl))) (mvT hZ522 (W 85 rfl)) (mvT hZ522 (W 84 rfl)) (by decide) (backOf (W := 0) (rmeqs l Z a0 G1 hG [] b_504 T547.heap n0 Z552 O552) hZ522 (W 86 rfl) (W 6 rfl) (by decide) (by decide)) q557a q557c (g := (mkF m 219 #[.val (.int p0), .val (.int p1), .val (.int p2), .val (.int p3), .val (.ref b_504), .val (.int vm_), .val (.ref b_506), .val (.int (4 : Int32)), .val (.ref b508), .val (.ref b_522), .val (.ref c_535), .val (.int (1 : Int32)), .val (.ref c_547), .val (.int (1 : Int32)), .val (.ref b_504), .unset, .unset, .unset, .unset, .unset] [(.ref b_504), (.ref b_504)])) rfl (by rw [hml]; rfl) (Steps.refl _) (argsL := [(.ref b_504)]) (rest := []) (lenOf pd__Ljava_lang_Object__Z rfl) rfl (by show 2 * 0 + _ ≤ _; exact Nat.le_of_eq rfl) (hb hby at_219) (fun _ _ => ⟨rfl, eq554, (by decide : 19 + 0 ≤ _), (by decide : 60 + 0 ≤ _)⟩)
  dsimp only [Pt.U, Pt.locs, Pt.cells, Pt.slots] at X557 l557 y557 z557 st557 hQ557
  subst l557 y557 z557
  obtain ⟨rfl, N557q, eq557⟩ := hQ557
  have N557 := Fr.app N554 N557q
  have f560 := (((((f522_6.other W529 (Or.inl (Ne.symm (Nat.ne_of_lt (Nat.lt_of_lt_of_le f524.lt lo_b_522))))).other W533 (Or.inl (Ne.symm (Nat.ne_of_lt (Nat.lt_of_lt_of_le f524.lt lo_b_522))))).keep K535 nin0).other W545 (Or.inl (Nat.ne_of_lt (Nat.lt_of_lt_of_le f539.lt lo_c_535)))).keep K547 nin0)
  obtain ⟨cq559, kq559, q559a, q559b, q559c⟩ := isOf hZ522 eq557 f556
  -- pc 226: com/example/larkbridge/larkbridge/mcp/McpResourceContents.mimeType
  obtain ⟨_, _, ⟨T559, L559, k559, n559⟩, -, X559, ⟨Lc559, hQ559, l559, y559, z559⟩, st559⟩ := X557.virtualBack hx (y := y8) (z := y8) hw522 (mvT hZ522 (W 87 rfl)) (mvT hZ522 (W 88 rfl)) (notFace_of_selects (args := #[]) (mvT hZ522 (W 90 rfl))) (mvT hZ522 (W 90 rfl)) (mvT hZ522 (W 89 rfl)) (by decide) (backOf (W := 0) (rmG_McpResourceContents_mimeType l Z a0 G1 hG [] b_522 (.ref b_506) T547.heap n0 Z552 O552 f560 rfl) hZ522 (W 91 rfl) (W 36 rfl) (by decide) (by decide)) q559a q559c (g := (mkF m 226 #[.val (.int p0), .val (.int p1), .val (.int p2), .val (.int p3), .val (.ref b_504), .val (.int vm_), .val (.ref b_506), .val (.int (4 : Int32)), .val (.ref b508), .val (.ref b_522), .val (.ref c_535), .val (.int (1 : Int32)), .val (.ref c_547), .val (.int (1 : Int32)), .val (.ref b_504), .val (.int (1 : Int32)), .unset, .unset, .unset, .unset] [(.ref b_522)])) rfl (by rw [hml]; rfl) (Steps.refl _) (argsL := []) (rest := []) (lenOf pd___Ljava_lang_String_ rfl) rfl (by show 2 * 0 + _ ≤ _; exact Nat.le_of_eq rfl) (hb hby at_226) (fun _ _ => ⟨rfl, eq557, (by decide : 19 + 0 ≤ _), (by decide : 60 + 0 ≤ _)⟩)
  dsimp only [Pt.U, Pt.locs, Pt.cells, Pt.slots] at X559 l559 y559 z559 st559 hQ559
  subst l559 y559 z559
  obtain ⟨rfl, N559q, eq559⟩ := hQ559
  have N559 := Fr.app N557 N559q
  have f562 := (((((((((((f506_1.ext E508).wr W511).wr W514).wr W517).wr W520).keep K522).wr W529).wr W533).keep K535).wr W545).keep K547)
  obtain ⟨cq561, kq561, q561a, q561b, q561c⟩ := isOf hZ522 eq559 f562
  -- pc 253: java/lang/String.equals
  obtain ⟨_, _, ⟨T561, L561, k561, n561⟩, -, X561, ⟨Lc561, hQ561, l561, y561, z561⟩, st561⟩ := X559.virtualBack hx (y := y11) (z := y11) hw522 (mvT hZ522 (W 82 rfl)) (mvT hZ522 (W 83 rfl)) (notFace_of_selects (args := #[]) (mvT hZ522 (W 85 rfl))) (mvT hZ522 (W 85 rfl)) (mvT hZ522 (W 84 rfl)) (by decide) (backOf (W := 0) (rmeqs l Z a0 G1 hG [] b_506 T547.heap n0 Z552 O552) hZ522 (W 86 rfl) (W 6 rfl) (by decide) (by decide)) q561a q561c (g := (mkF m 253 #[.val (.int p0), .val (.int p1), .val (.int p2), .val (.int p3), .val (.ref b_504), .val (.int vm_), .val (.ref b_506), .val (.int (4 : Int32)), .val (.ref b508), .val (.ref b_522), .val (.ref c_535), .val (.int (1 : Int32)), .val (.ref c_547), .val (.int (1 : Int32)), .val (.ref b_504), .val (.int (1 : Int32)), .val (.ref b_506), .unset, .unset, .unset] [(.ref b_506), (.ref b_506)])) rfl (by rw [hml]; rfl) (Steps.refl _) (argsL := [(.ref b_506)]) (rest := []) (lenOf pd__Ljava_lang_Object__Z rfl) rfl (by show 2 * 0 + _ ≤ _; exact Nat.le_of_eq rfl) (hb hby at_253) (fun _ _ => ⟨rfl, eq559, (by decide : 19 + 0 ≤ _), (by decide : 60 + 0 ≤ _)⟩)
  dsimp only [Pt.U, Pt.locs, Pt.cells, Pt.slots] at X561 l561 y561 z561 st561 hQ561
  subst l561 y561 z561
  obtain ⟨rfl, N561q, eq561⟩ := hQ561
  have N561 := Fr.app N559 N561q
  have f564 := (((((f522_7.other W529 (Or.inl (Ne.symm (Nat.ne_of_lt (Nat.lt_of_lt_of_le f524.lt lo_b_522))))).other W533 (Or.inl (Ne.symm (Nat.ne_of_lt (Nat.lt_of_lt_of_le f524.lt lo_b_522))))).keep K535 nin0).other W545 (Or.inl (Nat.ne_of_lt (Nat.lt_of_lt_of_le f539.lt lo_c_535)))).keep K547 nin0)
  obtain ⟨cq563, kq563, q563a, q563b, q563c⟩ := isOf hZ522 eq561 f556
  -- pc 260: com/example/larkbridge/larkbridge/mcp/McpResourceContents.isText
  obtain ⟨_, _, ⟨T563, L563, k563, n563⟩, -, X563, ⟨Lc563, hQ563, l563, y563, z563⟩, st563⟩ := X561.virtualBack hx (y := y9) (z := y9) hw522 (mvT hZ522 (W 92 rfl)) (mvT hZ522 (W 93 rfl)) (notFace_of_selects (args := #[]) (mvT hZ522 (W 95 rfl))) (mvT hZ522 (W 95 rfl)) (mvT hZ522 (W 94 rfl)) (by decide) (backOf (W := 0) (rmist l Z a0 G1 hG [] b_522 T547.heap n0 Z552 O552 f564) hZ522 (W 96 rfl) (W 36 rfl) (by decide) (by decide)) q563a q563c (g := (mkF m 260 #[.val (.int p0), .val (.int p1), .val (.int p2), .val (.int p3), .val (.ref b_504), .val (.int vm_), .val (.ref b_506), .val (.int (4 : Int32)), .val (.ref b508), .val (.ref b_522), .val (.ref c_535), .val (.int (1 : Int32)), .val (.ref c_547), .val (.int (1 : Int32)), .val (.ref b_504), .val (.int (1 : Int32)), .val (.ref b_506), .val (.int (1 : Int32)), .unset, .unset] [(.ref b_522)])) rfl (by rw [hml]; rfl) (Steps.refl _) (argsL := []) (rest := []) (lenOf pd___Z rfl) rfl (by show 2 * 0 + _ ≤ _; exact Nat.le_of_eq rfl) (hb hby at_260) (fun _ _ => ⟨rfl, eq561, (by decide : 19 + 0 ≤ _), (by decide : 60 + 0 ≤ _)⟩)
  dsimp only [Pt.U, Pt.locs, Pt.cells, Pt.slots] at X563 l563 y563 z563 st563 hQ563
  subst l563 y563 z563
  obtain ⟨rfl, N563q, eq563⟩ := hQ563
  have N563 := Fr.app N561 N563q
  obtain ⟨cq565, kq565, q565a, q565b, q565c⟩ := isOf hZ522 eq563 f556
  -- pc 275: com/example/larkbridge/larkbridge/mcp/McpResourceContents.text
  obtain ⟨_, _, ⟨T565, L565, k565, n565⟩, -, X565, ⟨Lc565, hQ565, l565, y565, z565⟩, st565⟩ := X563.virtualBack hx (y := y10) (z := y10) hw522 (mvT hZ522 (W 97 rfl)) (mvT hZ522 (W 98 rfl)) (notFace_of_selects (args := #[]) (mvT hZ522 (W 100 rfl))) (mvT hZ522 (W 100 rfl)) (mvT hZ522 (W 99 rfl)) (by decide) (backOf (W := 0) (rmtxt l Z a0 G1 hG [] b_522 T547.heap n0 Z552 O552 f564) hZ522 (W 101 rfl) (W 36 rfl) (by decide) (by decide)) q565a q565c (g := (mkF m 275 #[.val (.int p0), .val (.int p1), .val (.int p2), .val (.int p3), .val (.ref b_504), .val (.int vm_), .val (.ref b_506), .val (.int (4 : Int32)), .val (.ref b508), .val (.ref b_522), .val (.ref c_535), .val (.int (1 : Int32)), .val (.ref c_547), .val (.int (1 : Int32)), .val (.ref b_504), .val (.int (1 : Int32)), .val (.ref b_506), .val (.int (1 : Int32)), .val (.int (1 : Int32)), .unset] [(.ref b_522)])) rfl (by rw [hml]; rfl) (Steps.refl _) (argsL := []) (rest := []) (lenOf pd___Ljava_lang_String_ rfl) rfl (by show 2 * 0 + _ ≤ _; exact Nat.le_of_eq rfl) (hb hby at_275) (fun _ _ => ⟨rfl, eq563, (by decide : 19 + 0 ≤ _), (by decide : 60 + 0 ≤ _)⟩)
  dsimp only [Pt.U, Pt.locs, Pt.cells, Pt.slots] at X565 l565 y565 z565 st565 hQ565
  subst l565 y565 z565
  obtain ⟨rfl, N565q, eq565⟩ := hQ565
  have N565 := Fr.app N563 N565q
  obtain ⟨fs, hr, hrun, hended, hend⟩ := Jvm.Stand.leaveW (v := some (.int (1 : Int32))) X565 hSn522 (by rw [eq565]; exact hk552) (fun h => by rw [Bd.returns] at h; cases h)
  have hFin := R552.trans (CHv.at X565 hZ522 hEL R552.1)
  refine ⟨_, _, pre0 _ ?_, hrun, hended, _, _, rfl, ?_, ?_, own_mono hend (Nat.le_of_ble_eq_true rfl) (Nat.le_of_ble_eq_true rfl)⟩
  · show Steps p.tables e below (s₁.setTop (mkF m 0 #[.val (.int p0), .val (.int p1), .val (.int p2), .val (.int p3), .unset, .unset, .unset, .unset, .unset, .unset, .unset, .unset, .unset, .unset, .unset, .unset, .unset, .unset, .unset, .unset] [])) _
    refine XS.iloadN X0.here hx rfl (hb hby at_0) rfl ?_
    refine XS.iloadN X0.here hx rfl (hb hby at_1) rfl ?_
    refine XS.iconst X0.here hx rfl (hb hby at_2) ?_
    refine XS.iand X0.here hx rfl (hb hby at_3) rfl ?_
    refine st504.trans ?_
    show Steps p.tables e below (T504.setTop (mkF m 7 #[.val (.int p0), .val (.int p1), .val (.int p2), .val (.int p3), .unset, .unset, .unset, .unset, .unset, .unset, .unset, .unset, .unset, .unset, .unset, .unset, .unset, .unset, .unset, .unset] [(.ref b_504)])) _
    refine XS.astore X504.here hx rfl (hb hby at_7) rfl rfl (l' := #[.val (.int p0), .val (.int p1), .val (.int p2), .val (.int p3), .val (.ref b_504), .unset, .unset, .unset, .unset, .unset, .unset, .unset, .unset, .unset, .unset, .unset, .unset, .unset, .unset, .unset]) rfl ?_
    refine XS.iloadN X504.here hx rfl (hb hby at_9) rfl ?_
    refine XS.iconst X504.here hx rfl (hb hby at_10) ?_
    refine XS.iushr X504.here hx rfl (hb hby at_11) rfl ?_
    refine XS.bipush X504.here hx rfl (hb hby at_12) ?_
    refine XS.iand X504.here hx rfl (hb hby at_14) rfl ?_
    show Steps p.tables e below (T504.setTop (mkF m 15 #[.val (.int p0), .val (.int p1), .val (.int p2), .val (.int p3), .val (.ref b_504), .unset, .unset, .unset, .unset, .unset, .unset, .unset, .unset, .unset, .unset, .unset, .unset, .unset, .unset, .unset] [(.int (((p3.toUInt32 >>> ((2 : Int32) &&& 31).toUInt32).toInt32) &&& (7 : Int32)))])) _
    rw [← hvm]
    show Steps p.tables e below (T504.setTop (mkF m 15 #[.val (.int p0), .val (.int p1), .val (.int p2), .val (.int p3), .val (.ref b_504), .unset, .unset, .unset, .unset, .unset, .unset, .unset, .unset, .unset, .unset, .unset, .unset, .unset, .unset, .unset] [(.int vm_)])) _
    refine XS.istore X504.here hx rfl (hb hby at_15) rfl (l' := #[.val (.int p0), .val (.int p1), .val (.int p2), .val (.int p3), .val (.ref b_504), .val (.int vm_), .unset, .unset, .unset, .unset, .unset, .unset, .unset, .unset, .unset, .unset, .unset, .unset, .unset, .unset]) rfl ?_
    refine XS.iload X504.here hx rfl (hb hby at_17) rfl ?_
    refine XS.ifYes X504.here hx rfl (pc0 := 19) (pc' := 26) rfl (hb hby at_19) rfl ((if0 _ _).trans (feq ((by rw [hvm]; exact hm) : ¬ (vm_ = (0 : Int32)))).2) (by decide) (by decide) ?_
    refine XS.iloadN X504.here hx rfl (hb hby at_26) rfl ?_
    refine XS.iload X504.here hx rfl (hb hby at_27) rfl ?_
    refine XS.iconst X504.here hx rfl (hb hby at_29) ?_
    refine XS.iand X504.here hx rfl (hb hby at_30) rfl ?_
    refine st506.trans ?_
    show Steps p.tables e below (T506.setTop (mkF m 34 #[.val (.int p0), .val (.int p1), .val (.int p2), .val (.int p3), .val (.ref b_504), .val (.int vm_), .unset, .unset, .unset, .unset, .unset, .unset, .unset, .unset, .unset, .unset, .unset, .unset, .unset, .unset] [(.ref b_506)])) _
    refine XS.astore X506.here hx rfl (hb hby at_34) rfl rfl (l' := #[.val (.int p0), .val (.int p1), .val (.int p2), .val (.int p3), .val (.ref b_504), .val (.int vm_), .val (.ref b_506), .unset, .unset, .unset, .unset, .unset, .unset, .unset, .unset, .unset, .unset, .unset, .unset, .unset]) rfl ?_
    refine XS.iloadN X506.here hx rfl (hb hby at_36) rfl ?_
    refine XS.iconst X506.here hx rfl (hb hby at_37) ?_
    refine XS.iushr X506.here hx rfl (hb hby at_38) rfl ?_
    refine XS.bipush X506.here hx rfl (hb hby at_39) ?_
    refine XS.iand X506.here hx rfl (hb hby at_41) rfl ?_
    refine XS.iconst X506.here hx rfl (hb hby at_42) ?_
    refine iremM (g := (mkF m 43 #[.val (.int p0), .val (.int p1), .val (.int p2), .val (.int p3), .val (.ref b_504), .val (.int vm_), .val (.ref b_506), .unset, .unset, .unset, .unset, .unset, .unset, .unset, .unset, .unset, .unset, .unset, .unset, .unset] [(.int (5 : Int32)), (.int (((p3.toUInt32 >>> ((5 : Int32) &&& 31).toUInt32).toInt32) &&& (7 : Int32)))])) X506 hx rfl (hb hby at_43) rfl (by decide) ?_
    show Steps p.tables e below (T506.setTop (mkF m 44 #[.val (.int p0), .val (.int p1), .val (.int p2), .val (.int p3), .val (.ref b_504), .val (.int vm_), .val (.ref b_506), .unset, .unset, .unset, .unset, .unset, .unset, .unset, .unset, .unset, .unset, .unset, .unset, .unset] [(.int ((((p3.toUInt32 >>> ((5 : Int32) &&& 31).toUInt32).toInt32) &&& (7 : Int32)) % (5 : Int32)))])) _
    rw [hn]
    show Steps p.tables e below (T506.setTop (mkF m 44 #[.val (.int p0), .val (.int p1), .val (.int p2), .val (.int p3), .val (.ref b_504), .val (.int vm_), .val (.ref b_506), .unset, .unset, .unset, .unset, .unset, .unset, .unset, .unset, .unset, .unset, .unset, .unset, .unset] [(.int (4 : Int32))])) _
    refine XS.istore X506.here hx rfl (hb hby at_44) rfl (l' := #[.val (.int p0), .val (.int p1), .val (.int p2), .val (.int p3), .val (.ref b_504), .val (.int vm_), .val (.ref b_506), .val (.int (4 : Int32)), .unset, .unset, .unset, .unset, .unset, .unset, .unset, .unset, .unset, .unset, .unset, .unset]) rfl ?_
    refine XS.iload X506.here hx rfl (hb hby at_46) rfl ?_
    refine st508 _ ?_
    show Steps p.tables e below (T508.setTop (mkF m 50 #[.val (.int p0), .val (.int p1), .val (.int p2), .val (.int p3), .val (.ref b_504), .val (.int vm_), .val (.ref b_506), .val (.int (4 : Int32)), .unset, .unset, .unset, .unset, .unset, .unset, .unset, .unset, .unset, .unset, .unset, .unset] [(.ref b508)])) _
    refine XS.astore X508.here hx rfl (hb hby at_50) rfl rfl (l' := #[.val (.int p0), .val (.int p1), .val (.int p2), .val (.int p3), .val (.ref b_504), .val (.int vm_), .val (.ref b_506), .val (.int (4 : Int32)), .val (.ref b508), .unset, .unset, .unset, .unset, .unset, .unset, .unset, .unset, .unset, .unset, .unset]) rfl ?_
    refine XS.iload X508.here hx rfl (hb hby at_52) rfl ?_
    refine XS.ifNo X508.here hx rfl (hb hby at_54) rfl ((if0 _ _).trans (tlt (by decide : (0 : Int32) < (4 : Int32))).2.2.2) ?_
    refine XS.aload X508.here hx rfl (hb hby at_57) rfl rfl ?_
    refine XS.iconst X508.here hx rfl (hb hby at_59) ?_
    refine XS.iloadN X508.here hx rfl (hb hby at_60) rfl ?_
    refine XS.i2b X508.here hx rfl (hb hby at_61) rfl ?_
    refine st511 _ ?_
    show Steps p.tables e below (T511.setTop (mkF m 63 #[.val (.int p0), .val (.int p1), .val (.int p2), .val (.int p3), .val (.ref b_504), .val (.int vm_), .val (.ref b_506), .val (.int (4 : Int32)), .val (.ref b508), .unset, .unset, .unset, .unset, .unset, .unset, .unset, .unset, .unset, .unset, .unset] [])) _
    refine XS.iload X511.here hx rfl (hb hby at_63) rfl ?_
    refine XS.iconst X511.here hx rfl (hb hby at_65) ?_
    refine XS.icmpNo X511.here hx rfl (hb hby at_66) rfl (tlt (by decide : (1 : Int32) < (4 : Int32))).2.2.2 ?_
    refine XS.aload X511.here hx rfl (hb hby at_69) rfl rfl ?_
    refine XS.iconst X511.here hx rfl (hb hby at_71) ?_
    refine XS.iloadN X511.here hx rfl (hb hby at_72) rfl ?_
    refine XS.bipush X511.here hx rfl (hb hby at_73) ?_
    refine XS.iushr X511.here hx rfl (hb hby at_75) rfl ?_
    show Steps p.tables e below (T511.setTop (mkF m 76 #[.val (.int p0), .val (.int p1), .val (.int p2), .val (.int p3), .val (.ref b_504), .val (.int vm_), .val (.ref b_506), .val (.int (4 : Int32)), .val (.ref b508), .unset, .unset, .unset, .unset, .unset, .unset, .unset, .unset, .unset, .unset, .unset] [(.int ((p2.toUInt32 >>> ((8 : Int32) &&& 31).toUInt32).toInt32)), (.int (1 : Int32)), (.ref b508)])) _
    refine XS.i2b X511.here hx rfl (hb hby at_76) rfl ?_
    refine st514 _ ?_
    show Steps p.tables e below (T514.setTop (mkF m 78 #[.val (.int p0), .val (.int p1), .val (.int p2), .val (.int p3), .val (.ref b_504), .val (.int vm_), .val (.ref b_506), .val (.int (4 : Int32)), .val (.ref b508), .unset, .unset, .unset, .unset, .unset, .unset, .unset, .unset, .unset, .unset, .unset] [])) _
    refine XS.iload X514.here hx rfl (hb hby at_78) rfl ?_
    refine XS.iconst X514.here hx rfl (hb hby at_80) ?_
    refine XS.icmpNo X514.here hx rfl (hb hby at_81) rfl (tlt (by decide : (2 : Int32) < (4 : Int32))).2.2.2 ?_
    refine XS.aload X514.here hx rfl (hb hby at_84) rfl rfl ?_
    refine XS.iconst X514.here hx rfl (hb hby at_86) ?_
    refine XS.iloadN X514.here hx rfl (hb hby at_87) rfl ?_
    refine XS.bipush X514.here hx rfl (hb hby at_88) ?_
    refine XS.iushr X514.here hx rfl (hb hby at_90) rfl ?_
    show Steps p.tables e below (T514.setTop (mkF m 91 #[.val (.int p0), .val (.int p1), .val (.int p2), .val (.int p3), .val (.ref b_504), .val (.int vm_), .val (.ref b_506), .val (.int (4 : Int32)), .val (.ref b508), .unset, .unset, .unset, .unset, .unset, .unset, .unset, .unset, .unset, .unset, .unset] [(.int ((p2.toUInt32 >>> ((16 : Int32) &&& 31).toUInt32).toInt32)), (.int (2 : Int32)), (.ref b508)])) _
    refine XS.i2b X514.here hx rfl (hb hby at_91) rfl ?_
    refine st517 _ ?_
    show Steps p.tables e below (T517.setTop (mkF m 93 #[.val (.int p0), .val (.int p1), .val (.int p2), .val (.int p3), .val (.ref b_504), .val (.int vm_), .val (.ref b_506), .val (.int (4 : Int32)), .val (.ref b508), .unset, .unset, .unset, .unset, .unset, .unset, .unset, .unset, .unset, .unset, .unset] [])) _
    refine XS.iload X517.here hx rfl (hb hby at_93) rfl ?_
    refine XS.iconst X517.here hx rfl (hb hby at_95) ?_
    refine XS.icmpNo X517.here hx rfl (hb hby at_96) rfl (tlt (by decide : (3 : Int32) < (4 : Int32))).2.2.2 ?_
    refine XS.aload X517.here hx rfl (hb hby at_99) rfl rfl ?_
    refine XS.iconst X517.here hx rfl (hb hby at_101) ?_
    refine XS.iloadN X517.here hx rfl (hb hby at_102) rfl ?_
    refine XS.bipush X517.here hx rfl (hb hby at_103) ?_
    refine XS.iushr X517.here hx rfl (hb hby at_105) rfl ?_
    show Steps p.tables e below (T517.setTop (mkF m 106 #[.val (.int p0), .val (.int p1), .val (.int p2), .val (.int p3), .val (.ref b_504), .val (.int vm_), .val (.ref b_506), .val (.int (4 : Int32)), .val (.ref b508), .unset, .unset, .unset, .unset, .unset, .unset, .unset, .unset, .unset, .unset, .unset] [(.int ((p2.toUInt32 >>> ((24 : Int32) &&& 31).toUInt32).toInt32)), (.int (3 : Int32)), (.ref b508)])) _
    refine XS.i2b X517.here hx rfl (hb hby at_106) rfl ?_
    refine st520 _ ?_
    show Steps p.tables e below (T520.setTop (mkF m 108 #[.val (.int p0), .val (.int p1), .val (.int p2), .val (.int p3), .val (.ref b_504), .val (.int vm_), .val (.ref b_506), .val (.int (4 : Int32)), .val (.ref b508), .unset, .unset, .unset, .unset, .unset, .unset, .unset, .unset, .unset, .unset, .unset] [])) _
    refine XS.aload X520.here hx rfl (hb hby at_108) rfl rfl ?_
    refine XS.aload X520.here hx rfl (hb hby at_110) rfl rfl ?_
    refine XS.aload X520.here hx rfl (hb hby at_112) rfl rfl ?_
    refine st522.trans ?_
    show Steps p.tables e below (T522.setTop (mkF m 117 #[.val (.int p0), .val (.int p1), .val (.int p2), .val (.int p3), .val (.ref b_504), .val (.int vm_), .val (.ref b_506), .val (.int (4 : Int32)), .val (.ref b508), .unset, .unset, .unset, .unset, .unset, .unset, .unset, .unset, .unset, .unset, .unset] [(.ref b_522)])) _
    refine XS.astore X522.here hx rfl (hb hby at_117) rfl rfl (l' := #[.val (.int p0), .val (.int p1), .val (.int p2), .val (.int p3), .val (.ref b_504), .val (.int vm_), .val (.ref b_506), .val (.int (4 : Int32)), .val (.ref b508), .val (.ref b_522), .unset, .unset, .unset, .unset, .unset, .unset, .unset, .unset, .unset, .unset]) rfl ?_
    refine XS.iload X522.here hx rfl (hb hby at_119) rfl ?_
    refine XS.ifNo X522.here hx rfl (hb hby at_121) rfl ((if0 _ _).trans (tlt (by decide : (0 : Int32) < (4 : Int32))).2.2.2) ?_
    refine XS.aload X522.here hx rfl (hb hby at_124) rfl rfl ?_
    refine XS.iconst X522.here hx rfl (hb hby at_126) ?_
    refine XS.aload X522.here hx rfl (hb hby at_127) rfl rfl ?_
    refine XS.iconst X522.here hx rfl (hb hby at_129) ?_
    refine X522.baloadBytes hx (j := (0 : Int32)) (v := (.int ((p2.toInt8.toInt32).toInt8.toInt32))) (own_cell rfl Arq527.1) (State.isArrayOf_alike hZ522.alike Arq527.2.1) Arq527.2.2 hinq527 hatq527 (g := (mkF m 130 #[.val (.int p0), .val (.int p1), .val (.int p2), .val (.int p3), .val (.ref b_504), .val (.int vm_), .val (.ref b_506), .val (.int (4 : Int32)), .val (.ref b508), .val (.ref b_522), .unset, .unset, .unset, .unset, .unset, .unset, .unset, .unset, .unset, .unset] [(.int (0 : Int32)), (.ref b508), (.int (0 : Int32)), (.ref b508)])) rfl rfl (hb hby at_130) _ ?_
    show Steps p.tables e below (T522.setTop (mkF m 131 #[.val (.int p0), .val (.int p1), .val (.int p2), .val (.int p3), .val (.ref b_504), .val (.int vm_), .val (.ref b_506), .val (.int (4 : Int32)), .val (.ref b508), .val (.ref b_522), .unset, .unset, .unset, .unset, .unset, .unset, .unset, .unset, .unset, .unset] [(.int ((p2.toInt8.toInt32).toInt8.toInt32)), (.int (0 : Int32)), (.ref b508)])) _
    refine XS.iconst X522.here hx rfl (hb hby at_131) ?_
    refine XS.ixor X522.here hx rfl (hb hby at_132) rfl ?_
    refine XS.i2b X522.here hx rfl (hb hby at_133) rfl ?_
    refine st529 _ ?_
    show Steps p.tables e below (T529.setTop (mkF m 135 #[.val (.int p0), .val (.int p1), .val (.int p2), .val (.int p3), .val (.ref b_504), .val (.int vm_), .val (.ref b_506), .val (.int (4 : Int32)), .val (.ref b508), .val (.ref b_522), .unset, .unset, .unset, .unset, .unset, .unset, .unset, .unset, .unset, .unset] [])) _
    refine XS.iload X529.here hx rfl (hb hby at_135) rfl ?_
    refine XS.iconst X529.here hx rfl (hb hby at_137) ?_
    refine XS.icmpNo X529.here hx rfl (hb hby at_138) rfl (tlt (by decide : (3 : Int32) < (4 : Int32))).2.2.2 ?_
    refine XS.aload X529.here hx rfl (hb hby at_141) rfl rfl ?_
    refine XS.iconst X529.here hx rfl (hb hby at_143) ?_
    refine XS.aload X529.here hx rfl (hb hby at_144) rfl rfl ?_
    refine XS.iconst X529.here hx rfl (hb hby at_146) ?_
    refine X529.baloadBytes hx (j := (3 : Int32)) (v := (.int ((((p2.toUInt32 >>> ((24 : Int32) &&& 31).toUInt32).toInt32).toInt8.toInt32).toInt8.toInt32))) (own_cell e529 Arq531.1) (State.isArrayOf_alike hZ522.alike Arq531.2.1) Arq531.2.2 hinq531 hatq531 (g := (mkF m 147 #[.val (.int p0), .val (.int p1), .val (.int p2), .val (.int p3), .val (.ref b_504), .val (.int vm_), .val (.ref b_506), .val (.int (4 : Int32)), .val (.ref b508), .val (.ref b_522), .unset, .unset, .unset, .unset, .unset, .unset, .unset, .unset, .unset, .unset] [(.int (3 : Int32)), (.ref b508), (.int (3 : Int32)), (.ref b508)])) rfl rfl (hb hby at_147) _ ?_
    show Steps p.tables e below (T529.setTop (mkF m 148 #[.val (.int p0), .val (.int p1), .val (.int p2), .val (.int p3), .val (.ref b_504), .val (.int vm_), .val (.ref b_506), .val (.int (4 : Int32)), .val (.ref b508), .val (.ref b_522), .unset, .unset, .unset, .unset, .unset, .unset, .unset, .unset, .unset, .unset] [(.int ((((p2.toUInt32 >>> ((24 : Int32) &&& 31).toUInt32).toInt32).toInt8.toInt32).toInt8.toInt32)), (.int (3 : Int32)), (.ref b508)])) _
    refine XS.iconst X529.here hx rfl (hb hby at_148) ?_
    refine XS.ixor X529.here hx rfl (hb hby at_149) rfl ?_
    refine XS.i2b X529.here hx rfl (hb hby at_150) rfl ?_
    refine st533 _ ?_
    show Steps p.tables e below (T533.setTop (mkF m 152 #[.val (.int p0), .val (.int p1), .val (.int p2), .val (.int p3), .val (.ref b_504), .val (.int vm_), .val (.ref b_506), .val (.int (4 : Int32)), .val (.ref b508), .val (.ref b_522), .unset, .unset, .unset, .unset, .unset, .unset, .unset, .unset, .unset, .unset] [])) _
    refine XS.aload X533.here hx rfl (hb hby at_152) rfl rfl ?_
    refine st535.trans ?_
    show Steps p.tables e below (T535.setTop (mkF m 157 #[.val (.int p0), .val (.int p1), .val (.int p2), .val (.int p3), .val (.ref b_504), .val (.int vm_), .val (.ref b_506), .val (.int (4 : Int32)), .val (.ref b508), .val (.ref b_522), .unset, .unset, .unset, .unset, .unset, .unset, .unset, .unset, .unset, .unset] [(.ref c_535)])) _
    refine XS.astore X535.here hx rfl (hb hby at_157) rfl rfl (l' := #[.val (.int p0), .val (.int p1), .val (.int p2), .val (.int p3), .val (.ref b_504), .val (.int vm_), .val (.ref b_506), .val (.int (4 : Int32)), .val (.ref b508), .val (.ref b_522), .val (.ref c_535), .unset, .unset, .unset, .unset, .unset, .unset, .unset, .unset, .unset]) rfl ?_
    refine XS.aload X535.here hx rfl (hb hby at_159) rfl rfl ?_
    refine XS.iload X535.here hx rfl (hb hby at_161) rfl ?_
    refine XS.iloadN X535.here hx rfl (hb hby at_163) rfl ?_
    refine st541 _ ?_
    show Steps p.tables e below (T541.setTop (mkF m 167 #[.val (.int p0), .val (.int p1), .val (.int p2), .val (.int p3), .val (.ref b_504), .val (.int vm_), .val (.ref b_506), .val (.int (4 : Int32)), .val (.ref b508), .val (.ref b_522), .val (.ref c_535), .unset, .unset, .unset, .unset, .unset, .unset, .unset, .unset, .unset] [(.int (1 : Int32))])) _
    refine XS.istore X541.here hx rfl (hb hby at_167) rfl (l' := #[.val (.int p0), .val (.int p1), .val (.int p2), .val (.int p3), .val (.ref b_504), .val (.int vm_), .val (.ref b_506), .val (.int (4 : Int32)), .val (.ref b508), .val (.ref b_522), .val (.ref c_535), .val (.int (1 : Int32)), .unset, .unset, .unset, .unset, .unset, .unset, .unset, .unset]) rfl ?_
    refine XS.aload X541.here hx rfl (hb hby at_169) rfl rfl ?_
    refine XS.ifnullNo X541.here hx rfl (hb hby at_171) rfl ?_
    refine XS.aload X541.here hx rfl (hb hby at_174) rfl rfl ?_
    refine X541.arraylength hx (own_cell eq541 Arq542.1) (State.isArrayOf_alike hZ522.alike Arq542.2.1) (g := (mkF m 176 #[.val (.int p0), .val (.int p1), .val (.int p2), .val (.int p3), .val (.ref b_504), .val (.int vm_), .val (.ref b_506), .val (.int (4 : Int32)), .val (.ref b508), .val (.ref b_522), .val (.ref c_535), .val (.int (1 : Int32)), .unset, .unset, .unset, .unset, .unset, .unset, .unset, .unset] [(.ref c_535)])) rfl rfl (hb hby at_176) _ ?_
    rw [len_of Sq542 Nq542]
    refine XS.ifNo X541.here hx rfl (hb hby at_177) rfl ((if0 _ _).trans (tlt (by decide : (0 : Int32) < (4 : Int32))).2.2.2) ?_
    refine XS.aload X541.here hx rfl (hb hby at_180) rfl rfl ?_
    refine XS.iconst X541.here hx rfl (hb hby at_182) ?_
    show Steps p.tables e below (T541.setTop (mkF m 183 #[.val (.int p0), .val (.int p1), .val (.int p2), .val (.int p3), .val (.ref b_504), .val (.int vm_), .val (.ref b_506), .val (.int (4 : Int32)), .val (.ref b508), .val (.ref b_522), .val (.ref c_535), .val (.int (1 : Int32)), .unset, .unset, .unset, .unset, .unset, .unset, .unset, .unset] [(.int (0 : Int32)), (.ref c_535)])) _
    refine XS.aload X541.here hx rfl (hb hby at_183) rfl rfl ?_
    refine XS.iconst X541.here hx rfl (hb hby at_185) ?_
    refine X541.baloadBytes hx (j := (0 : Int32)) (v := (.int ((p2.toInt8.toInt32).toInt8.toInt32))) (own_cell eq541 Arq543.1) (State.isArrayOf_alike hZ522.alike Arq543.2.1) Arq543.2.2 hinq543 hatq543 (g := (mkF m 186 #[.val (.int p0), .val (.int p1), .val (.int p2), .val (.int p3), .val (.ref b_504), .val (.int vm_), .val (.ref b_506), .val (.int (4 : Int32)), .val (.ref b508), .val (.ref b_522), .val (.ref c_535), .val (.int (1 : Int32)), .unset, .unset, .unset, .unset, .unset, .unset, .unset, .unset] [(.int (0 : Int32)), (.ref c_535), (.int (0 : Int32)), (.ref c_535)])) rfl rfl (hb hby at_186) _ ?_
    refine XS.iconst X541.here hx rfl (hb hby at_187) ?_
    refine XS.ixor X541.here hx rfl (hb hby at_188) rfl ?_
    refine XS.i2b X541.here hx rfl (hb hby at_189) rfl ?_
    refine st545 _ ?_
    show Steps p.tables e below (T545.setTop (mkF m 191 #[.val (.int p0), .val (.int p1), .val (.int p2), .val (.int p3), .val (.ref b_504), .val (.int vm_), .val (.ref b_506), .val (.int (4 : Int32)), .val (.ref b508), .val (.ref b_522), .val (.ref c_535), .val (.int (1 : Int32)), .unset, .unset, .unset, .unset, .unset, .unset, .unset, .unset] [])) _
    refine XS.aload X545.here hx rfl (hb hby at_191) rfl rfl ?_
    refine st547.trans ?_
    show Steps p.tables e below (T547.setTop (mkF m 196 #[.val (.int p0), .val (.int p1), .val (.int p2), .val (.int p3), .val (.ref b_504), .val (.int vm_), .val (.ref b_506), .val (.int (4 : Int32)), .val (.ref b508), .val (.ref b_522), .val (.ref c_535), .val (.int (1 : Int32)), .unset, .unset, .unset, .unset, .unset, .unset, .unset, .unset] [(.ref c_547)])) _
    refine XS.astore X547.here hx rfl (hb hby at_196) rfl rfl (l' := #[.val (.int p0), .val (.int p1), .val (.int p2), .val (.int p3), .val (.ref b_504), .val (.int vm_), .val (.ref b_506), .val (.int (4 : Int32)), .val (.ref b508), .val (.ref b_522), .val (.ref c_535), .val (.int (1 : Int32)), .val (.ref c_547), .unset, .unset, .unset, .unset, .unset, .unset, .unset]) rfl ?_
    refine XS.aload X547.here hx rfl (hb hby at_198) rfl rfl ?_
    refine XS.iload X547.here hx rfl (hb hby at_200) rfl ?_
    refine XS.iloadN X547.here hx rfl (hb hby at_202) rfl ?_
    refine st553 _ ?_
    show Steps p.tables e below (T553.setTop (mkF m 206 #[.val (.int p0), .val (.int p1), .val (.int p2), .val (.int p3), .val (.ref b_504), .val (.int vm_), .val (.ref b_506), .val (.int (4 : Int32)), .val (.ref b508), .val (.ref b_522), .val (.ref c_535), .val (.int (1 : Int32)), .val (.ref c_547), .unset, .unset, .unset, .unset, .unset, .unset, .unset] [(.int (1 : Int32))])) _
    refine XS.istore X553.here hx rfl (hb hby at_206) rfl (l' := #[.val (.int p0), .val (.int p1), .val (.int p2), .val (.int p3), .val (.ref b_504), .val (.int vm_), .val (.ref b_506), .val (.int (4 : Int32)), .val (.ref b508), .val (.ref b_522), .val (.ref c_535), .val (.int (1 : Int32)), .val (.ref c_547), .val (.int (1 : Int32)), .unset, .unset, .unset, .unset, .unset, .unset]) rfl ?_
    refine XS.aload X553.here hx rfl (hb hby at_208) rfl rfl ?_
    refine st554.trans ?_
    show Steps p.tables e below (T554.setTop (mkF m 213 #[.val (.int p0), .val (.int p1), .val (.int p2), .val (.int p3), .val (.ref b_504), .val (.int vm_), .val (.ref b_506), .val (.int (4 : Int32)), .val (.ref b508), .val (.ref b_522), .val (.ref c_535), .val (.int (1 : Int32)), .val (.ref c_547), .val (.int (1 : Int32)), .unset, .unset, .unset, .unset, .unset, .unset] [(.ref b_504)])) _
    refine XS.astore X554.here hx rfl (hb hby at_213) rfl rfl (l' := #[.val (.int p0), .val (.int p1), .val (.int p2), .val (.int p3), .val (.ref b_504), .val (.int vm_), .val (.ref b_506), .val (.int (4 : Int32)), .val (.ref b508), .val (.ref b_522), .val (.ref c_535), .val (.int (1 : Int32)), .val (.ref c_547), .val (.int (1 : Int32)), .val (.ref b_504), .unset, .unset, .unset, .unset, .unset]) rfl ?_
    refine XS.aload X554.here hx rfl (hb hby at_215) rfl rfl ?_
    refine XS.aload X554.here hx rfl (hb hby at_217) rfl rfl ?_
    refine st557.trans ?_
    show Steps p.tables e below (T557.setTop (mkF m 222 #[.val (.int p0), .val (.int p1), .val (.int p2), .val (.int p3), .val (.ref b_504), .val (.int vm_), .val (.ref b_506), .val (.int (4 : Int32)), .val (.ref b508), .val (.ref b_522), .val (.ref c_535), .val (.int (1 : Int32)), .val (.ref c_547), .val (.int (1 : Int32)), .val (.ref b_504), .unset, .unset, .unset, .unset, .unset] [(.int (1 : Int32))])) _
    refine XS.istore X557.here hx rfl (hb hby at_222) rfl (l' := #[.val (.int p0), .val (.int p1), .val (.int p2), .val (.int p3), .val (.ref b_504), .val (.int vm_), .val (.ref b_506), .val (.int (4 : Int32)), .val (.ref b508), .val (.ref b_522), .val (.ref c_535), .val (.int (1 : Int32)), .val (.ref c_547), .val (.int (1 : Int32)), .val (.ref b_504), .val (.int (1 : Int32)), .unset, .unset, .unset, .unset]) rfl ?_
    refine XS.aload X557.here hx rfl (hb hby at_224) rfl rfl ?_
    refine st559.trans ?_
    show Steps p.tables e below (T559.setTop (mkF m 229 #[.val (.int p0), .val (.int p1), .val (.int p2), .val (.int p3), .val (.ref b_504), .val (.int vm_), .val (.ref b_506), .val (.int (4 : Int32)), .val (.ref b508), .val (.ref b_522), .val (.ref c_535), .val (.int (1 : Int32)), .val (.ref c_547), .val (.int (1 : Int32)), .val (.ref b_504), .val (.int (1 : Int32)), .unset, .unset, .unset, .unset] [(.ref b_506)])) _
    refine XS.astore X559.here hx rfl (hb hby at_229) rfl rfl (l' := #[.val (.int p0), .val (.int p1), .val (.int p2), .val (.int p3), .val (.ref b_504), .val (.int vm_), .val (.ref b_506), .val (.int (4 : Int32)), .val (.ref b508), .val (.ref b_522), .val (.ref c_535), .val (.int (1 : Int32)), .val (.ref c_547), .val (.int (1 : Int32)), .val (.ref b_504), .val (.int (1 : Int32)), .val (.ref b_506), .unset, .unset, .unset]) rfl ?_
    refine XS.aload X559.here hx rfl (hb hby at_231) rfl rfl ?_
    refine XS.ifnonnullYes X559.here hx rfl (pc0 := 233) (pc' := 249) rfl (hb hby at_233) rfl (by decide) (by decide) ?_
    refine XS.aload X559.here hx rfl (hb hby at_249) rfl rfl ?_
    refine XS.aload X559.here hx rfl (hb hby at_251) rfl rfl ?_
    refine st561.trans ?_
    show Steps p.tables e below (T561.setTop (mkF m 256 #[.val (.int p0), .val (.int p1), .val (.int p2), .val (.int p3), .val (.ref b_504), .val (.int vm_), .val (.ref b_506), .val (.int (4 : Int32)), .val (.ref b508), .val (.ref b_522), .val (.ref c_535), .val (.int (1 : Int32)), .val (.ref c_547), .val (.int (1 : Int32)), .val (.ref b_504), .val (.int (1 : Int32)), .val (.ref b_506), .unset, .unset, .unset] [(.int (1 : Int32))])) _
    refine XS.istore X561.here hx rfl (hb hby at_256) rfl (l' := #[.val (.int p0), .val (.int p1), .val (.int p2), .val (.int p3), .val (.ref b_504), .val (.int vm_), .val (.ref b_506), .val (.int (4 : Int32)), .val (.ref b508), .val (.ref b_522), .val (.ref c_535), .val (.int (1 : Int32)), .val (.ref c_547), .val (.int (1 : Int32)), .val (.ref b_504), .val (.int (1 : Int32)), .val (.ref b_506), .val (.int (1 : Int32)), .unset, .unset]) rfl ?_
    refine XS.aload X561.here hx rfl (hb hby at_258) rfl rfl ?_
    refine st563.trans ?_
    show Steps p.tables e below (T563.setTop (mkF m 263 #[.val (.int p0), .val (.int p1), .val (.int p2), .val (.int p3), .val (.ref b_504), .val (.int vm_), .val (.ref b_506), .val (.int (4 : Int32)), .val (.ref b508), .val (.ref b_522), .val (.ref c_535), .val (.int (1 : Int32)), .val (.ref c_547), .val (.int (1 : Int32)), .val (.ref b_504), .val (.int (1 : Int32)), .val (.ref b_506), .val (.int (1 : Int32)), .unset, .unset] [(.int (0 : Int32))])) _
    refine XS.ifNo X563.here hx rfl (hb hby at_263) rfl ((if0 _ _).trans (teq (by decide : (0 : Int32) = (0 : Int32))).2) ?_
    refine XS.iconst X563.here hx rfl (hb hby at_266) ?_
    refine XS.goto X563.here hx rfl (pc0 := 267) (pc' := 271) rfl (hb hby at_267) (by decide) (by decide) ?_
    refine XS.istore X563.here hx rfl (hb hby at_271) rfl (l' := #[.val (.int p0), .val (.int p1), .val (.int p2), .val (.int p3), .val (.ref b_504), .val (.int vm_), .val (.ref b_506), .val (.int (4 : Int32)), .val (.ref b508), .val (.ref b_522), .val (.ref c_535), .val (.int (1 : Int32)), .val (.ref c_547), .val (.int (1 : Int32)), .val (.ref b_504), .val (.int (1 : Int32)), .val (.ref b_506), .val (.int (1 : Int32)), .val (.int (1 : Int32)), .unset]) rfl ?_
    refine XS.aload X563.here hx rfl (hb hby at_273) rfl rfl ?_
    refine st565.trans ?_
    show Steps p.tables e below (T565.setTop (mkF m 278 #[.val (.int p0), .val (.int p1), .val (.int p2), .val (.int p3), .val (.ref b_504), .val (.int vm_), .val (.ref b_506), .val (.int (4 : Int32)), .val (.ref b508), .val (.ref b_522), .val (.ref c_535), .val (.int (1 : Int32)), .val (.ref c_547), .val (.int (1 : Int32)), .val (.ref b_504), .val (.int (1 : Int32)), .val (.ref b_506), .val (.int (1 : Int32)), .val (.int (1 : Int32)), .unset] [.null])) _
    refine XS.ifnonnullNo X565.here hx rfl (hb hby at_278) rfl ?_
    refine XS.iconst X565.here hx rfl (hb hby at_281) ?_
    refine XS.goto X565.here hx rfl (pc0 := 282) (pc' := 286) rfl (hb hby at_282) (by decide) (by decide) ?_
    refine XS.istore X565.here hx rfl (hb hby at_286) rfl (l' := #[.val (.int p0), .val (.int p1), .val (.int p2), .val (.int p3), .val (.ref b_504), .val (.int vm_), .val (.ref b_506), .val (.int (4 : Int32)), .val (.ref b508), .val (.ref b_522), .val (.ref c_535), .val (.int (1 : Int32)), .val (.ref c_547), .val (.int (1 : Int32)), .val (.ref b_504), .val (.int (1 : Int32)), .val (.ref b_506), .val (.int (1 : Int32)), .val (.int (1 : Int32)), .val (.int (1 : Int32))]) rfl ?_
    refine XS.iload X565.here hx rfl (hb hby at_288) rfl ?_
    refine XS.ifNo X565.here hx rfl (hb hby at_290) rfl ((if0 _ _).trans (feq (by decide : ¬ ((1 : Int32) = (0 : Int32)))).1) ?_
    refine XS.iload X565.here hx rfl (hb hby at_293) rfl ?_
    refine XS.ifNo X565.here hx rfl (hb hby at_295) rfl ((if0 _ _).trans (feq (by decide : ¬ ((1 : Int32) = (0 : Int32)))).1) ?_
    show Steps p.tables e below (T565.setTop (mkF m 298 #[.val (.int p0), .val (.int p1), .val (.int p2), .val (.int p3), .val (.ref b_504), .val (.int vm_), .val (.ref b_506), .val (.int (4 : Int32)), .val (.ref b508), .val (.ref b_522), .val (.ref c_535), .val (.int (1 : Int32)), .val (.ref c_547), .val (.int (1 : Int32)), .val (.ref b_504), .val (.int (1 : Int32)), .val (.ref b_506), .val (.int (1 : Int32)), .val (.int (1 : Int32)), .val (.int (1 : Int32))] [])) _
    refine XS.iload X565.here hx rfl (hb hby at_298) rfl ?_
    refine XS.ifNo X565.here hx rfl (hb hby at_300) rfl ((if0 _ _).trans (feq (by decide : ¬ ((1 : Int32) = (0 : Int32)))).1) ?_
    refine XS.iload X565.here hx rfl (hb hby at_303) rfl ?_
    refine XS.ifNo X565.here hx rfl (hb hby at_305) rfl ((if0 _ _).trans (feq (by decide : ¬ ((1 : Int32) = (0 : Int32)))).1) ?_
    refine XS.iload X565.here hx rfl (hb hby at_308) rfl ?_
    refine XS.ifNo X565.here hx rfl (hb hby at_310) rfl ((if0 _ _).trans (feq (by decide : ¬ ((1 : Int32) = (0 : Int32)))).1) ?_
    refine XS.iload X565.here hx rfl (hb hby at_313) rfl ?_
    refine XS.ifNo X565.here hx rfl (hb hby at_315) rfl ((if0 _ _).trans (feq (by decide : ¬ ((1 : Int32) = (0 : Int32)))).1) ?_
    show Steps p.tables e below (T565.setTop (mkF m 318 #[.val (.int p0), .val (.int p1), .val (.int p2), .val (.int p3), .val (.ref b_504), .val (.int vm_), .val (.ref b_506), .val (.int (4 : Int32)), .val (.ref b508), .val (.ref b_522), .val (.ref c_535), .val (.int (1 : Int32)), .val (.ref c_547), .val (.int (1 : Int32)), .val (.ref b_504), .val (.int (1 : Int32)), .val (.ref b_506), .val (.int (1 : Int32)), .val (.int (1 : Int32)), .val (.int (1 : Int32))] [])) _
    refine XS.iconst X565.here hx rfl (hb hby at_318) ?_
    refine XS.goto X565.here hx rfl (pc0 := 319) (pc' := 323) rfl (hb hby at_319) (by decide) (by decide) ?_
    exact retN X565 hx (t := .boolean) Bd.returns (by simp) (hb hby at_323) hr
  · show Q0 Z G1 p0 p1 p2 p3 h0 n0 _ T565.heap _
    rw [eq565]
    exact ⟨rfl, N565, K0_552⟩
  · show CHr Z own_EL s.vm s.heap T565.vm T565.heap
    rw [hh, eq565]
    exact hFin
set_option maxRecDepth 65536 in
set_option maxHeartbeats 40000000 in
theorem rm0_4f (l : Launch) (Z : State) (a0 : Array Value) (G1 : Int32) (hG : Glob Z a0 G1) (ws : List Jvm.Cond) (p0 : Int32) (p1 : Int32) (p2 : Int32) (p3 : Int32) (h0 : Heap) (n0 : Nat) (Z0 : n0 ≤ h0.size) (X00 : Old Z n0 h0) (hn : ((((p3.toUInt32 >>> ((5 : Int32) &&& 31).toUInt32).toInt32) &&& (7 : Int32)) % (5 : Int32)) = (4 : Int32)) (hm : (((p3.toUInt32 >>> ((2 : Int32) &&& 31).toUInt32).toInt32) &&& (7 : Int32)) = (0 : Int32)) :
    MetFree l x (head1 (Jvm.Cond.code x code maxLocals ret :: ws) room_1) (fun a U => a = #[(.int p0), (.int p1), (.int p2), (.int p3)] ∧ Z.Warmed39 U.vm ∧ U.heap = h0 ∧ CHv Z own_EL U.vm h0) (fun _ _ _ _ _ => True) (fun _ U o U' => ∃ v L, o = .returned v ∧ Q0 Z G1 p0 p1 p2 p3 h0 n0 v U'.heap L ∧ CHr Z own_EL U.vm U.heap U'.vm U'.heap ∧ ReturnedEndW U o U' L room_1.cells room_1.slots) := by
  obtain ⟨hw, O_cs, P_cs⟩ := id hG
  have W : ∀ (i : Nat) {d : Jvm.Cond}, tables_1[i]? = some d → d.before a0 Z = true := fun i d h => hw d (List.mem_of_getElem? h)
  refine MetFree.of_bodySF (plainFor_of_name pn_com_example_larkbridge_larkbridge_mcp_McpResourceContentsBinaryPinLaw) hisR ?_
  intro p e s m args below meth c s₁ Bd hml0 hP hK
  obtain ⟨rfl, hZ, hh, hCH⟩ := hP
  have hx := Bd.exec
  have hby := Bd.bytes
  have hml : c.maxLocals = 20 := hml0
  have hown : s.vm.findClass "com/example/larkbridge/larkbridge/mcp/McpResourceContentsBinaryPinLaw" = some m.cls := findClass_of_methodNamed Bd.named
  have hnm := (name_of_methodNamed Bd.named Bd.method).1
  have X0 : Stand p l e room_1 (s.setVm s.vm) m #[(.int p0), (.int p1), (.int p2), (.int p3)] below meth c s₁ [] 0 0 := Stand.of_body Bd
  have e0 : s₁.heap = h0 := by rw [← hh, Bd.state]; rfl
  have hS0 : s.Since s.vm h0.size := (State.WarmedH.refl s).since _
  have hk0 : h0.size ≤ h0.size := Nat.le_refl _
  have R0 : CHr Z own_EL s.vm h0 s.vm h0 := CHr.refl hCH
  have hEL := own_ew hw
  have N0 := Fr.nil n0
  have pre0 : ∀ t, Steps p.tables e below (s₁.setTop (mkF m 0 #[.val (.int p0), .val (.int p1), .val (.int p2), .val (.int p3), .unset, .unset, .unset, .unset, .unset, .unset, .unset, .unset, .unset, .unset, .unset, .unset, .unset, .unset, .unset, .unset] [])) t → Steps p.tables e below (s₁.setTop (entryFrame m #[(.int p0), (.int p1), (.int p2), (.int p3)] maxLocals)) t := fun t kk_ => castTop (ef_code_IIII m p0 p1 p2 p3) kk_
  -- pc 4: com/example/larkbridge/larkbridge/mcp/McpResourceContentsBinaryPinLaw.str
  obtain ⟨_, _, ⟨T566, L566, k566, n566⟩, -, X566, hS566, hG566, ⟨Lc566, hQ566, l566, y566, z566, hC566⟩, st566⟩ := callSS X0 hx (y := y3) hown (mvT hZ (W 0 rfl)) (mvT hZ (W 1 rfl)) (mvT hZ (W 2 rfl)) (mvT hZ (W 3 rfl)) (by decide) (backOfSH (s := s) (W := 0) (rmstr l Z a0 G1 hG [] p0 (p3 &&& (3 : Int32)) h0 n0 Z0 X00) hZ (W 3 rfl) (W 2 rfl) (by decide) (by decide) hEL R0.1) (g := (mkF m 4 #[.val (.int p0), .val (.int p1), .val (.int p2), .val (.int p3), .unset, .unset, .unset, .unset, .unset, .unset, .unset, .unset, .unset, .unset, .unset, .unset, .unset, .unset, .unset, .unset] [(.int (p3 &&& (3 : Int32))), (.int p0)])) rfl (by rw [hml]; rfl) (argsL := [(.int p0), (.int (p3 &&& (3 : Int32)))]) (rest := []) (lenOf pd__II_Ljava_lang_String_ rfl) rfl (by show 2 * 0 + _ ≤ _; exact Nat.le_of_eq rfl) (hb hby at_4) (fun _ _ => ⟨rfl, e0, (by decide : 0 + 6 ≤ _), (by decide : 0 + 12 ≤ _)⟩)
  dsimp only [Pt.U, Pt.locs, Pt.cells, Pt.slots] at X566 l566 y566 z566 st566 hQ566 hS566 hG566 hC566
  subst l566 y566 z566
  have hZ566 : Z.Warmed39 T566.vm := State.Warmed39.trans (t := s.setVm s.vm) hZ hS566.1
  have hw566 : T566.vm.findClass "com/example/larkbridge/larkbridge/mcp/McpResourceContentsBinaryPinLaw" = some m.cls := by rw [hS566.1.alike.findClass]; exact hown
  have hSn566 : s.Since T566.vm T566.heap.size := hS0.trans hS566 (Nat.le_trans hk0 (by have q := hG566; rw [e0] at q; exact q))
  have X566 : Stand p l e _ (s.setVm T566.vm) m _ below meth c T566 _ _ _ := X566
  obtain ⟨b_566, rfl, N566q, K566, f566_0, f566_1⟩ := hQ566
  have N566 := Fr.app N0 N566q
  have Z567 : n0 ≤ T566.heap.size := Nat.le_trans Z0 K566.1
  have K0_567 : Keep h0 T566.heap [] := (Keep.refl h0 []).trans K566 all0
  have O567 : Old Z n0 T566.heap := X00.keep K566 all0
  have hkw566 : T566.heap.size ≤ T566.heap.size := Nat.le_refl _
  have Rb566 : CHr Z own_EL s.vm h0 T566.vm T566.heap := R0.trans hC566
  have lo_b_566 : h0.size ≤ b_566 := f566_0
  have g_b_566 : n0 ≤ b_566 := Nat.le_trans Z0 lo_b_566
  have l0_b_566 : h0.size ≤ b_566 := Nat.le_trans (Keep.refl h0 []).1 lo_b_566
  obtain ⟨vm_, hvm⟩ : ∃ z : Int32, z = (((p3.toUInt32 >>> ((2 : Int32) &&& 31).toUInt32).toInt32) &&& (7 : Int32)) := ⟨_, rfl⟩
  obtain ⟨T568, h568, k568, X568, e568, E568, A568, Q568, st568⟩ := newPE X566 hx hZ566 (W 23 rfl) rfl (g := (mkF m 48 #[.val (.int p0), .val (.int p1), .val (.int p2), .val (.int p3), .val (.ref b_566), .val (.int vm_), .val .null, .val (.int (4 : Int32)), .unset, .unset, .unset, .unset, .unset, .unset, .unset, .unset, .unset, .unset, .unset, .unset] [(.int (4 : Int32))])) rfl (hb hby at_48) rfl (by decide) (cap := 4) (by decide) (by decide) (by decide) (by decide) (ad := "[B") rfl
  obtain ⟨b568, g568⟩ : ∃ z, z = T566.heap.size := ⟨_, rfl⟩
  rw [← g568] at A568 Q568 st568
  have Z569 : n0 ≤ h568.size := Nat.le_trans Z567 E568.1
  have K0_569 : Keep h0 h568 [] := K0_567.ext E568
  have O569 : Old Z n0 h568 := O567.ext E568
  have R569 : CHr Z own_EL s.vm h0 T566.vm h568 := Rb566.trans (CHr.ext E568 Rb566.1)
  have hk569 : T566.heap.size ≤ h568.size := Nat.le_trans hkw566 E568.1
  have lo_b568 : T566.heap.size ≤ b568 := Nat.le_of_eq g568.symm
  have g_b568 : n0 ≤ b568 := Nat.le_trans Z567 lo_b568
  have l0_b568 : h0.size ≤ b568 := Nat.le_trans K0_567.1 lo_b568
  have sfb568 : Safe Z own_EL T566.vm h568 b568 := Safe.ext E568 Rb566.1 (Safe.new lo_b568)
  have V_b568 : Arv Z h568 b568 k568 .byte (4 : Int32) [(.int (0 : Int32)), (.int (0 : Int32)), (.int (0 : Int32)), (.int (0 : Int32))] (.int (0 : Int32)) := (Arv.new A568 (by decide)).pad (pad_rep [] (.int (0 : Int32)) 4)
  obtain ⟨clq570, Arq570, qaq570, Sq570, Nq570, Hq570, Gq570⟩ := id V_b568
  have hinq570 : ¬ ((0 : Int32) < 0 ∨ clq570.slots.size ≤ ((0 : Int32)).toNatClampNeg) := inb_of Sq570 ⟨by decide, by decide⟩
  obtain ⟨T571, h571, X571, e571, W571, st571⟩ := stB X568 hx hZ566 e568 Arq570 (j := (0 : Int32)) hinq570 (g := (mkF m 62 #[.val (.int p0), .val (.int p1), .val (.int p2), .val (.int p3), .val (.ref b_566), .val (.int vm_), .val .null, .val (.int (4 : Int32)), .val (.ref b568), .unset, .unset, .unset, .unset, .unset, .unset, .unset, .unset, .unset, .unset, .unset] [(.int (p2.toInt8.toInt32)), (.int (0 : Int32)), (.ref b568)])) rfl rfl (hb hby at_62)
  have V571 : Arv Z h571 b568 k568 .byte (4 : Int32) [(.int ((p2.toInt8.toInt32).toInt8.toInt32)), (.int (0 : Int32)), (.int (0 : Int32)), (.int (0 : Int32))] (.int (0 : Int32)) := Arv.set Arq570 qaq570 Sq570 Nq570 Hq570 Gq570 (fits_nar_byte _) W571 0 rfl (Nat.le_of_ble_eq_true rfl)
  have Z572 : n0 ≤ h571.size := Nat.le_trans Z569 (Keep.of_wr W571).1
  have K0_572 : Keep h0 h571 [] := K0_569.wr W571 (Or.inr l0_b568)
  have O572 : Old Z n0 h571 := O569.wr W571 g_b568
  have R572 : CHr Z own_EL s.vm h0 T566.vm h571 := R569.trans (CHr.wr W571 sfb568 R569.1)
  have hk572 : T566.heap.size ≤ h571.size := Nat.le_trans hk569 (Keep.of_wr W571).1
  have sf572_b568 : Safe Z own_EL T566.vm h571 b568 := Safe.wr W571 sfb568 R569.1 sfb568
  have N571 := Fr.snoc X571 N566 g_b568
  obtain ⟨clq573, Arq573, qaq573, Sq573, Nq573, Hq573, Gq573⟩ := id V571
  have hinq573 : ¬ ((1 : Int32) < 0 ∨ clq573.slots.size ≤ ((1 : Int32)).toNatClampNeg) := inb_of Sq573 ⟨by decide, by decide⟩
  obtain ⟨T574, h574, X574, e574, W574, st574⟩ := stB X571 hx hZ566 e571 Arq573 (j := (1 : Int32)) hinq573 (g := (mkF m 77 #[.val (.int p0), .val (.int p1), .val (.int p2), .val (.int p3), .val (.ref b_566), .val (.int vm_), .val .null, .val (.int (4 : Int32)), .val (.ref b568), .unset, .unset, .unset, .unset, .unset, .unset, .unset, .unset, .unset, .unset, .unset] [(.int (((p2.toUInt32 >>> ((8 : Int32) &&& 31).toUInt32).toInt32).toInt8.toInt32)), (.int (1 : Int32)), (.ref b568)])) rfl rfl (hb hby at_77)
  have V574 : Arv Z h574 b568 k568 .byte (4 : Int32) [(.int ((p2.toInt8.toInt32).toInt8.toInt32)), (.int ((((p2.toUInt32 >>> ((8 : Int32) &&& 31).toUInt32).toInt32).toInt8.toInt32).toInt8.toInt32)), (.int (0 : Int32)), (.int (0 : Int32))] (.int (0 : Int32)) := Arv.set Arq573 qaq573 Sq573 Nq573 Hq573 Gq573 (fits_nar_byte _) W574 1 rfl (Nat.le_of_ble_eq_true rfl)
  have Z575 : n0 ≤ h574.size := Nat.le_trans Z572 (Keep.of_wr W574).1
  have K0_575 : Keep h0 h574 [] := K0_572.wr W574 (Or.inr l0_b568)
  have O575 : Old Z n0 h574 := O572.wr W574 g_b568
  have R575 : CHr Z own_EL s.vm h0 T566.vm h574 := R572.trans (CHr.wr W574 sf572_b568 R572.1)
  have hk575 : T566.heap.size ≤ h574.size := Nat.le_trans hk572 (Keep.of_wr W574).1
  have sf575_b568 : Safe Z own_EL T566.vm h574 b568 := Safe.wr W574 sf572_b568 R572.1 sf572_b568
  have N574 := Fr.snoc X574 N571 g_b568
  obtain ⟨clq576, Arq576, qaq576, Sq576, Nq576, Hq576, Gq576⟩ := id V574
  have hinq576 : ¬ ((2 : Int32) < 0 ∨ clq576.slots.size ≤ ((2 : Int32)).toNatClampNeg) := inb_of Sq576 ⟨by decide, by decide⟩
  obtain ⟨T577, h577, X577, e577, W577, st577⟩ := stB X574 hx hZ566 e574 Arq576 (j := (2 : Int32)) hinq576 (g := (mkF m 92 #[.val (.int p0), .val (.int p1), .val (.int p2), .val (.int p3), .val (.ref b_566), .val (.int vm_), .val .null, .val (.int (4 : Int32)), .val (.ref b568), .unset, .unset, .unset, .unset, .unset, .unset, .unset, .unset, .unset, .unset, .unset] [(.int (((p2.toUInt32 >>> ((16 : Int32) &&& 31).toUInt32).toInt32).toInt8.toInt32)), (.int (2 : Int32)), (.ref b568)])) rfl rfl (hb hby at_92)
  have V577 : Arv Z h577 b568 k568 .byte (4 : Int32) [(.int ((p2.toInt8.toInt32).toInt8.toInt32)), (.int ((((p2.toUInt32 >>> ((8 : Int32) &&& 31).toUInt32).toInt32).toInt8.toInt32).toInt8.toInt32)), (.int ((((p2.toUInt32 >>> ((16 : Int32) &&& 31).toUInt32).toInt32).toInt8.toInt32).toInt8.toInt32)), (.int (0 : Int32))] (.int (0 : Int32)) := Arv.set Arq576 qaq576 Sq576 Nq576 Hq576 Gq576 (fits_nar_byte _) W577 2 rfl (Nat.le_of_ble_eq_true rfl)
  have Z578 : n0 ≤ h577.size := Nat.le_trans Z575 (Keep.of_wr W577).1
  have K0_578 : Keep h0 h577 [] := K0_575.wr W577 (Or.inr l0_b568)
  have O578 : Old Z n0 h577 := O575.wr W577 g_b568
  have R578 : CHr Z own_EL s.vm h0 T566.vm h577 := R575.trans (CHr.wr W577 sf575_b568 R575.1)
  have hk578 : T566.heap.size ≤ h577.size := Nat.le_trans hk575 (Keep.of_wr W577).1
  have sf578_b568 : Safe Z own_EL T566.vm h577 b568 := Safe.wr W577 sf575_b568 R575.1 sf575_b568
  have N577 := Fr.snoc X577 N574 g_b568
  obtain ⟨clq579, Arq579, qaq579, Sq579, Nq579, Hq579, Gq579⟩ := id V577
  have hinq579 : ¬ ((3 : Int32) < 0 ∨ clq579.slots.size ≤ ((3 : Int32)).toNatClampNeg) := inb_of Sq579 ⟨by decide, by decide⟩
  obtain ⟨T580, h580, X580, e580, W580, st580⟩ := stB X577 hx hZ566 e577 Arq579 (j := (3 : Int32)) hinq579 (g := (mkF m 107 #[.val (.int p0), .val (.int p1), .val (.int p2), .val (.int p3), .val (.ref b_566), .val (.int vm_), .val .null, .val (.int (4 : Int32)), .val (.ref b568), .unset, .unset, .unset, .unset, .unset, .unset, .unset, .unset, .unset, .unset, .unset] [(.int (((p2.toUInt32 >>> ((24 : Int32) &&& 31).toUInt32).toInt32).toInt8.toInt32)), (.int (3 : Int32)), (.ref b568)])) rfl rfl (hb hby at_107)
  have V580 : Arv Z h580 b568 k568 .byte (4 : Int32) [(.int ((p2.toInt8.toInt32).toInt8.toInt32)), (.int ((((p2.toUInt32 >>> ((8 : Int32) &&& 31).toUInt32).toInt32).toInt8.toInt32).toInt8.toInt32)), (.int ((((p2.toUInt32 >>> ((16 : Int32) &&& 31).toUInt32).toInt32).toInt8.toInt32).toInt8.toInt32)), (.int ((((p2.toUInt32 >>> ((24 : Int32) &&& 31).toUInt32).toInt32).toInt8.toInt32).toInt8.toInt32))] (.int (0 : Int32)) := Arv.set Arq579 qaq579 Sq579 Nq579 Hq579 Gq579 (fits_nar_byte _) W580 3 rfl (Nat.le_of_ble_eq_true rfl)
  have Z581 : n0 ≤ h580.size := Nat.le_trans Z578 (Keep.of_wr W580).1
  have K0_581 : Keep h0 h580 [] := K0_578.wr W580 (Or.inr l0_b568)
  have O581 : Old Z n0 h580 := O578.wr W580 g_b568
  have R581 : CHr Z own_EL s.vm h0 T566.vm h580 := R578.trans (CHr.wr W580 sf578_b568 R578.1)
  have hk581 : T566.heap.size ≤ h580.size := Nat.le_trans hk578 (Keep.of_wr W580).1
  have sf581_b568 : Safe Z own_EL T566.vm h580 b568 := Safe.wr W580 sf578_b568 R578.1 sf578_b568
  have N580 := Fr.snoc X580 N577 g_b568
  have f583 := (((((f566_1.ext E568).wr W571).wr W574).wr W577).wr W580)
  have f584 := ((((Q568.wr W571).wr W574).wr W577).wr W580)
  -- pc 114: com/example/larkbridge/larkbridge/mcp/McpResourceContents.binary
  obtain ⟨_, _, ⟨T582, L582, k582, n582⟩, -, X582, hS582, hG582, ⟨Lc582, hQ582, l582, y582, z582, hC582⟩, st582⟩ := callSS X580 hx (y := y5) hw566 (mvT hZ566 (W 34 rfl)) (mvT hZ566 (W 35 rfl)) (mvT hZ566 (W 36 rfl)) (mvT hZ566 (W 37 rfl)) (by decide) (backOfSH (s := s) (W := 0) (rmmcb l Z a0 G1 hG [] b_566 .null b568 k568 (4 : Int32) ([(.int ((p2.toInt8.toInt32).toInt8.toInt32)), (.int ((((p2.toUInt32 >>> ((8 : Int32) &&& 31).toUInt32).toInt32).toInt8.toInt32).toInt8.toInt32)), (.int ((((p2.toUInt32 >>> ((16 : Int32) &&& 31).toUInt32).toInt32).toInt8.toInt32).toInt8.toInt32)), (.int ((((p2.toUInt32 >>> ((24 : Int32) &&& 31).toUInt32).toInt32).toInt8.toInt32).toInt8.toInt32))] : List Value) h580 n0 Z581 O581 f583 f584 V580 rfl (by decide)) hZ566 (W 37 rfl) (W 36 rfl) (by decide) (by decide) hEL R581.1) (g := (mkF m 114 #[.val (.int p0), .val (.int p1), .val (.int p2), .val (.int p3), .val (.ref b_566), .val (.int vm_), .val .null, .val (.int (4 : Int32)), .val (.ref b568), .unset, .unset, .unset, .unset, .unset, .unset, .unset, .unset, .unset, .unset, .unset] [(.ref b568), .null, (.ref b_566)])) rfl (by rw [hml]; rfl) (argsL := [(.ref b_566), .null, (.ref b568)]) (rest := []) (lenOf pd__Ljava_lang_String_Ljava_lang_String__B_Lcom_example_larkbridge_larkbridge_mcp_McpResourceContents_ rfl) rfl (by show 2 * 0 + _ ≤ _; exact Nat.le_of_eq rfl) (hb hby at_114) (fun _ _ => ⟨rfl, e580, (by decide : 7 + 4 ≤ _), (by decide : 16 + 24 ≤ _)⟩)
  dsimp only [Pt.U, Pt.locs, Pt.cells, Pt.slots] at X582 l582 y582 z582 st582 hQ582 hS582 hG582 hC582
  subst l582 y582 z582
  have hZ582 : Z.Warmed39 T582.vm := State.Warmed39.trans (t := s.setVm T566.vm) hZ566 hS582.1
  have hw582 : T582.vm.findClass "com/example/larkbridge/larkbridge/mcp/McpResourceContentsBinaryPinLaw" = some m.cls := by rw [hS582.1.alike.findClass]; exact hw566
  have hSn582 : s.Since T582.vm T582.heap.size := hSn566.trans hS582 (Nat.le_trans hk581 (by have q := hG582; rw [e580] at q; exact q))
  have X582 : Stand p l e _ (s.setVm T582.vm) m _ below meth c T582 _ _ _ := X582
  obtain ⟨b_582, c_582, rfl, N582q, K582, f582_0, f582_1, f582_2, f582_3, f582_4, f582_5, f582_6, f582_7, f582_8⟩ := hQ582
  have N582 := Fr.app N580 N582q
  have Z585 : n0 ≤ T582.heap.size := Nat.le_trans Z581 K582.1
  have K0_585 : Keep h0 T582.heap [] := K0_581.trans K582 all0
  have O585 : Old Z n0 T582.heap := O581.keep K582 all0
  have hkw582 : T582.heap.size ≤ T582.heap.size := Nat.le_refl _
  have sfw585_b568 : Safe Z own_EL T582.vm T582.heap b568 := hC582.safe f584.lt sf581_b568
  have Rb582 : CHr Z own_EL s.vm h0 T582.vm T582.heap := R581.trans hC582
  have lo_b_582 : h580.size ≤ b_582 := f582_0
  have g_b_582 : n0 ≤ b_582 := Nat.le_trans Z581 lo_b_582
  have l0_b_582 : h0.size ≤ b_582 := Nat.le_trans K0_581.1 lo_b_582
  have lo_c_582 : h580.size ≤ c_582 := f582_1
  have g_c_582 : n0 ≤ c_582 := Nat.le_trans Z581 lo_c_582
  have l0_c_582 : h0.size ≤ c_582 := Nat.le_trans K0_581.1 lo_c_582
  have f586 := (V580.keep K582 nin0)
  obtain ⟨clq587, Arq587, qaq587, Sq587, Nq587, Hq587, Gq587⟩ := id f586
  have hinq587 : ¬ ((0 : Int32) < 0 ∨ clq587.slots.size ≤ ((0 : Int32)).toNatClampNeg) := inb_of Sq587 ⟨by decide, by decide⟩
  have hatq587 : clq587.slots[((0 : Int32)).toNatClampNeg]? = some (.int ((p2.toInt8.toInt32).toInt8.toInt32)) := Has.at Hq587 hinq587 rfl
  obtain ⟨clq588, Arq588, qaq588, Sq588, Nq588, Hq588, Gq588⟩ := id f586
  have hinq588 : ¬ ((0 : Int32) < 0 ∨ clq588.slots.size ≤ ((0 : Int32)).toNatClampNeg) := inb_of Sq588 ⟨by decide, by decide⟩
  obtain ⟨T589, h589, X589, e589, W589, st589⟩ := stB X582 hx hZ582 rfl Arq588 (j := (0 : Int32)) hinq588 (g := (mkF m 134 #[.val (.int p0), .val (.int p1), .val (.int p2), .val (.int p3), .val (.ref b_566), .val (.int vm_), .val .null, .val (.int (4 : Int32)), .val (.ref b568), .val (.ref b_582), .unset, .unset, .unset, .unset, .unset, .unset, .unset, .unset, .unset, .unset] [(.int ((((p2.toInt8.toInt32).toInt8.toInt32) ^^^ (-1 : Int32)).toInt8.toInt32)), (.int (0 : Int32)), (.ref b568)])) rfl rfl (hb hby at_134)
  have V589 : Arv Z h589 b568 k568 .byte (4 : Int32) [(.int (((((p2.toInt8.toInt32).toInt8.toInt32) ^^^ (-1 : Int32)).toInt8.toInt32).toInt8.toInt32)), (.int ((((p2.toUInt32 >>> ((8 : Int32) &&& 31).toUInt32).toInt32).toInt8.toInt32).toInt8.toInt32)), (.int ((((p2.toUInt32 >>> ((16 : Int32) &&& 31).toUInt32).toInt32).toInt8.toInt32).toInt8.toInt32)), (.int ((((p2.toUInt32 >>> ((24 : Int32) &&& 31).toUInt32).toInt32).toInt8.toInt32).toInt8.toInt32))] (.int (0 : Int32)) := Arv.set Arq588 qaq588 Sq588 Nq588 Hq588 Gq588 (fits_nar_byte _) W589 0 rfl (Nat.le_of_ble_eq_true rfl)
  have Z590 : n0 ≤ h589.size := Nat.le_trans Z585 (Keep.of_wr W589).1
  have K0_590 : Keep h0 h589 [] := K0_585.wr W589 (Or.inr l0_b568)
  have O590 : Old Z n0 h589 := O585.wr W589 g_b568
  have R590 : CHr Z own_EL s.vm h0 T582.vm h589 := Rb582.trans (CHr.wr W589 sfw585_b568 Rb582.1)
  have hk590 : T582.heap.size ≤ h589.size := Nat.le_trans hkw582 (Keep.of_wr W589).1
  have sf590_b568 : Safe Z own_EL T582.vm h589 b568 := Safe.wr W589 sfw585_b568 Rb582.1 sfw585_b568
  have N589 := Fr.snoc X589 N582 g_b568
  obtain ⟨clq591, Arq591, qaq591, Sq591, Nq591, Hq591, Gq591⟩ := id V589
  have hinq591 : ¬ ((3 : Int32) < 0 ∨ clq591.slots.size ≤ ((3 : Int32)).toNatClampNeg) := inb_of Sq591 ⟨by decide, by decide⟩
  have hatq591 : clq591.slots[((3 : Int32)).toNatClampNeg]? = some (.int ((((p2.toUInt32 >>> ((24 : Int32) &&& 31).toUInt32).toInt32).toInt8.toInt32).toInt8.toInt32)) := Has.at Hq591 hinq591 rfl
  obtain ⟨clq592, Arq592, qaq592, Sq592, Nq592, Hq592, Gq592⟩ := id V589
  have hinq592 : ¬ ((3 : Int32) < 0 ∨ clq592.slots.size ≤ ((3 : Int32)).toNatClampNeg) := inb_of Sq592 ⟨by decide, by decide⟩
  obtain ⟨T593, h593, X593, e593, W593, st593⟩ := stB X589 hx hZ582 e589 Arq592 (j := (3 : Int32)) hinq592 (g := (mkF m 151 #[.val (.int p0), .val (.int p1), .val (.int p2), .val (.int p3), .val (.ref b_566), .val (.int vm_), .val .null, .val (.int (4 : Int32)), .val (.ref b568), .val (.ref b_582), .unset, .unset, .unset, .unset, .unset, .unset, .unset, .unset, .unset, .unset] [(.int ((((((p2.toUInt32 >>> ((24 : Int32) &&& 31).toUInt32).toInt32).toInt8.toInt32).toInt8.toInt32) ^^^ (-1 : Int32)).toInt8.toInt32)), (.int (3 : Int32)), (.ref b568)])) rfl rfl (hb hby at_151)
  have V593 : Arv Z h593 b568 k568 .byte (4 : Int32) [(.int (((((p2.toInt8.toInt32).toInt8.toInt32) ^^^ (-1 : Int32)).toInt8.toInt32).toInt8.toInt32)), (.int ((((p2.toUInt32 >>> ((8 : Int32) &&& 31).toUInt32).toInt32).toInt8.toInt32).toInt8.toInt32)), (.int ((((p2.toUInt32 >>> ((16 : Int32) &&& 31).toUInt32).toInt32).toInt8.toInt32).toInt8.toInt32)), (.int (((((((p2.toUInt32 >>> ((24 : Int32) &&& 31).toUInt32).toInt32).toInt8.toInt32).toInt8.toInt32) ^^^ (-1 : Int32)).toInt8.toInt32).toInt8.toInt32))] (.int (0 : Int32)) := Arv.set Arq592 qaq592 Sq592 Nq592 Hq592 Gq592 (fits_nar_byte _) W593 3 rfl (Nat.le_of_ble_eq_true rfl)
  have Z594 : n0 ≤ h593.size := Nat.le_trans Z590 (Keep.of_wr W593).1
  have K0_594 : Keep h0 h593 [] := K0_590.wr W593 (Or.inr l0_b568)
  have O594 : Old Z n0 h593 := O590.wr W593 g_b568
  have R594 : CHr Z own_EL s.vm h0 T582.vm h593 := R590.trans (CHr.wr W593 sf590_b568 R590.1)
  have hk594 : T582.heap.size ≤ h593.size := Nat.le_trans hk590 (Keep.of_wr W593).1
  have sf594_b568 : Safe Z own_EL T582.vm h593 b568 := Safe.wr W593 sf590_b568 R590.1 sf590_b568
  have N593 := Fr.snoc X593 N589 g_b568
  have f596 := ((f582_8.other W589 (Or.inl (Ne.symm (Nat.ne_of_lt (Nat.lt_of_lt_of_le f584.lt lo_b_582))))).other W593 (Or.inl (Ne.symm (Nat.ne_of_lt (Nat.lt_of_lt_of_le f584.lt lo_b_582)))))
  have f597 := ((f582_3.wr W589).wr W593)
  have f598 := ((f582_4.other W589 (Ne.symm (Nat.ne_of_lt (Nat.lt_of_lt_of_le f584.lt lo_c_582)))).other W593 (Ne.symm (Nat.ne_of_lt (Nat.lt_of_lt_of_le f584.lt lo_c_582))))
  have f599 := ((f582_2.wr W589).wr W593)
  obtain ⟨cq595, kq595, q595a, q595b, q595c⟩ := isOf hZ582 e593 f599
  -- pc 154: com/example/larkbridge/larkbridge/mcp/McpResourceContents.bytes
  obtain ⟨_, _, ⟨T595, L595, k595, n595⟩, -, X595, ⟨Lc595, hQ595, l595, y595, z595⟩, st595⟩ := X593.virtualBack hx (y := y6) (z := y6) hw582 (mvT hZ582 (W 69 rfl)) (mvT hZ582 (W 70 rfl)) (notFace_of_selects (args := #[]) (mvT hZ582 (W 72 rfl))) (mvT hZ582 (W 72 rfl)) (mvT hZ582 (W 71 rfl)) (by decide) (backOf (W := 0) (rmbyt l Z a0 G1 hG [] b_582 c_582 k568 (4 : Int32) ([(.int ((p2.toInt8.toInt32).toInt8.toInt32)), (.int ((((p2.toUInt32 >>> ((8 : Int32) &&& 31).toUInt32).toInt32).toInt8.toInt32).toInt8.toInt32)), (.int ((((p2.toUInt32 >>> ((16 : Int32) &&& 31).toUInt32).toInt32).toInt8.toInt32).toInt8.toInt32)), (.int ((((p2.toUInt32 >>> ((24 : Int32) &&& 31).toUInt32).toInt32).toInt8.toInt32).toInt8.toInt32))] : List Value) h593 n0 Z594 O594 f596 f597 f598 (by decide)) hZ582 (W 73 rfl) (W 36 rfl) (by decide) (by decide)) q595a q595c (g := (mkF m 154 #[.val (.int p0), .val (.int p1), .val (.int p2), .val (.int p3), .val (.ref b_566), .val (.int vm_), .val .null, .val (.int (4 : Int32)), .val (.ref b568), .val (.ref b_582), .unset, .unset, .unset, .unset, .unset, .unset, .unset, .unset, .unset, .unset] [(.ref b_582)])) rfl (by rw [hml]; rfl) (Steps.refl _) (argsL := []) (rest := []) (lenOf pd____B rfl) rfl (by show 2 * 0 + _ ≤ _; exact Nat.le_of_eq rfl) (hb hby at_154) (fun _ _ => ⟨rfl, e593, (by decide : 11 + 1 ≤ _), (by decide : 40 + 4 ≤ _)⟩)
  dsimp only [Pt.U, Pt.locs, Pt.cells, Pt.slots] at X595 l595 y595 z595 st595 hQ595
  subst l595 y595 z595
  obtain ⟨c_595, rfl, N595q, K595, f595_0, f595_1, f595_2⟩ := hQ595
  have N595 := Fr.app N593 N595q
  have Z600 : n0 ≤ T595.heap.size := Nat.le_trans Z594 K595.1
  have K0_600 : Keep h0 T595.heap [] := K0_594.trans K595 all0
  have O600 : Old Z n0 T595.heap := O594.keep K595 all0
  have R600 : CHr Z own_EL s.vm h0 T582.vm T595.heap := R594.trans (CHr.keep K595 sf0 R594.1)
  have hk600 : T582.heap.size ≤ T595.heap.size := Nat.le_trans hk594 K595.1
  have sf600_b568 : Safe Z own_EL T582.vm T595.heap b568 := Safe.keep K595 sf0 R594.1 sf594_b568
  have lo_c_595 : h593.size ≤ c_595 := f595_0
  have g_c_595 : n0 ≤ c_595 := Nat.le_trans Z594 lo_c_595
  have l0_c_595 : h0.size ≤ c_595 := Nat.le_trans K0_594.1 lo_c_595
  have sfc595 : Safe Z own_EL T582.vm T595.heap c_595 := Safe.keep K595 sf0 R594.1 (Safe.new lo_c_595)
  -- pc 164: com/example/larkbridge/larkbridge/mcp/McpResourceContentsBinaryPinLaw.same
  obtain ⟨_, _, ⟨T601, L601, k601, n601⟩, -, X601, ⟨Lc601, hQ601, l601, y601, z601⟩, st601⟩ := Jvm.LawKit.callS X595 hx (y := y12) hw582 (mvT hZ582 (W 74 rfl)) (mvT hZ582 (W 75 rfl)) (mvT hZ582 (W 2 rfl)) (mvT hZ582 (W 76 rfl)) (by decide) (backOf (W := 0) (rmsame4 l Z a0 G1 hG [] c_595 p2 k568 T595.heap n0 Z600 O600 f595_2) hZ582 (W 76 rfl) (W 2 rfl) (by decide) (by decide)) (g := (mkF m 164 #[.val (.int p0), .val (.int p1), .val (.int p2), .val (.int p3), .val (.ref b_566), .val (.int vm_), .val .null, .val (.int (4 : Int32)), .val (.ref b568), .val (.ref b_582), .val (.ref c_595), .unset, .unset, .unset, .unset, .unset, .unset, .unset, .unset, .unset] [(.int p2), (.int (4 : Int32)), (.ref c_595)])) rfl (by rw [hml]; rfl) (argsL := [(.ref c_595), (.int (4 : Int32)), (.int p2)]) (rest := []) (lenOf pd___BII_Z rfl) rfl (by show 2 * 0 + _ ≤ _; exact Nat.le_of_eq rfl) (hb hby at_164) (fun _ _ => ⟨rfl, rfl, (by decide : 12 + 0 ≤ _), (by decide : 44 + 0 ≤ _)⟩)
  dsimp only [Pt.U, Pt.locs, Pt.cells, Pt.slots] at X601 l601 y601 z601 st601 hQ601
  subst l601 y601 z601
  obtain ⟨rfl, N601q, eq601⟩ := hQ601
  have N601 := Fr.app N595 N601q
  obtain ⟨clq602, Arq602, qaq602, Sq602, Nq602, Hq602, Gq602⟩ := id f595_2
  obtain ⟨clq603, Arq603, qaq603, Sq603, Nq603, Hq603, Gq603⟩ := id f595_2
  have hinq603 : ¬ ((0 : Int32) < 0 ∨ clq603.slots.size ≤ ((0 : Int32)).toNatClampNeg) := inb_of Sq603 ⟨by decide, by decide⟩
  have hatq603 : clq603.slots[((0 : Int32)).toNatClampNeg]? = some (.int ((p2.toInt8.toInt32).toInt8.toInt32)) := Has.at Hq603 hinq603 rfl
  obtain ⟨clq604, Arq604, qaq604, Sq604, Nq604, Hq604, Gq604⟩ := id f595_2
  have hinq604 : ¬ ((0 : Int32) < 0 ∨ clq604.slots.size ≤ ((0 : Int32)).toNatClampNeg) := inb_of Sq604 ⟨by decide, by decide⟩
  obtain ⟨T605, h605, X605, e605, W605, st605⟩ := stB X601 hx hZ582 eq601 Arq604 (j := (0 : Int32)) hinq604 (g := (mkF m 190 #[.val (.int p0), .val (.int p1), .val (.int p2), .val (.int p3), .val (.ref b_566), .val (.int vm_), .val .null, .val (.int (4 : Int32)), .val (.ref b568), .val (.ref b_582), .val (.ref c_595), .val (.int (1 : Int32)), .unset, .unset, .unset, .unset, .unset, .unset, .unset, .unset] [(.int ((((p2.toInt8.toInt32).toInt8.toInt32) ^^^ (-1 : Int32)).toInt8.toInt32)), (.int (0 : Int32)), (.ref c_595)])) rfl rfl (hb hby at_190)
  have V605 : Arv Z h605 c_595 k568 .byte (4 : Int32) [(.int (((((p2.toInt8.toInt32).toInt8.toInt32) ^^^ (-1 : Int32)).toInt8.toInt32).toInt8.toInt32)), (.int ((((p2.toUInt32 >>> ((8 : Int32) &&& 31).toUInt32).toInt32).toInt8.toInt32).toInt8.toInt32)), (.int ((((p2.toUInt32 >>> ((16 : Int32) &&& 31).toUInt32).toInt32).toInt8.toInt32).toInt8.toInt32)), (.int ((((p2.toUInt32 >>> ((24 : Int32) &&& 31).toUInt32).toInt32).toInt8.toInt32).toInt8.toInt32))] (.int (0 : Int32)) := Arv.set Arq604 qaq604 Sq604 Nq604 Hq604 Gq604 (fits_nar_byte _) W605 0 rfl (Nat.le_of_ble_eq_true rfl)
  have Z606 : n0 ≤ h605.size := Nat.le_trans Z600 (Keep.of_wr W605).1
  have K0_606 : Keep h0 h605 [] := K0_600.wr W605 (Or.inr l0_c_595)
  have O606 : Old Z n0 h605 := O600.wr W605 g_c_595
  have R606 : CHr Z own_EL s.vm h0 T582.vm h605 := R600.trans (CHr.wr W605 sfc595 R600.1)
  have hk606 : T582.heap.size ≤ h605.size := Nat.le_trans hk600 (Keep.of_wr W605).1
  have sf606_b568 : Safe Z own_EL T582.vm h605 b568 := Safe.wr W605 sfc595 R600.1 sf600_b568
  have sf606_c_595 : Safe Z own_EL T582.vm h605 c_595 := Safe.wr W605 sfc595 R600.1 sfc595
  have N605 := Fr.snoc X605 N601 g_c_595
  have f608 := ((f596.keep K595 nin0).other W605 (Or.inl (Nat.ne_of_lt (Nat.lt_of_lt_of_le f599.lt lo_c_595))))
  have f609 := ((f597.keep K595).wr W605)
  have f610 := ((f598.keep K595 nin0).other W605 (Nat.ne_of_lt (Nat.lt_of_lt_of_le f597.lt lo_c_595)))
  have f611 := ((f599.keep K595).wr W605)
  obtain ⟨cq607, kq607, q607a, q607b, q607c⟩ := isOf hZ582 e605 f611
  -- pc 193: com/example/larkbridge/larkbridge/mcp/McpResourceContents.bytes
  obtain ⟨_, _, ⟨T607, L607, k607, n607⟩, -, X607, ⟨Lc607, hQ607, l607, y607, z607⟩, st607⟩ := X605.virtualBack hx (y := y6) (z := y6) hw582 (mvT hZ582 (W 69 rfl)) (mvT hZ582 (W 70 rfl)) (notFace_of_selects (args := #[]) (mvT hZ582 (W 72 rfl))) (mvT hZ582 (W 72 rfl)) (mvT hZ582 (W 71 rfl)) (by decide) (backOf (W := 0) (rmbyt l Z a0 G1 hG [] b_582 c_582 k568 (4 : Int32) ([(.int ((p2.toInt8.toInt32).toInt8.toInt32)), (.int ((((p2.toUInt32 >>> ((8 : Int32) &&& 31).toUInt32).toInt32).toInt8.toInt32).toInt8.toInt32)), (.int ((((p2.toUInt32 >>> ((16 : Int32) &&& 31).toUInt32).toInt32).toInt8.toInt32).toInt8.toInt32)), (.int ((((p2.toUInt32 >>> ((24 : Int32) &&& 31).toUInt32).toInt32).toInt8.toInt32).toInt8.toInt32))] : List Value) h605 n0 Z606 O606 f608 f609 f610 (by decide)) hZ582 (W 73 rfl) (W 36 rfl) (by decide) (by decide)) q607a q607c (g := (mkF m 193 #[.val (.int p0), .val (.int p1), .val (.int p2), .val (.int p3), .val (.ref b_566), .val (.int vm_), .val .null, .val (.int (4 : Int32)), .val (.ref b568), .val (.ref b_582), .val (.ref c_595), .val (.int (1 : Int32)), .unset, .unset, .unset, .unset, .unset, .unset, .unset, .unset] [(.ref b_582)])) rfl (by rw [hml]; rfl) (Steps.refl _) (argsL := []) (rest := []) (lenOf pd____B rfl) rfl (by show 2 * 0 + _ ≤ _; exact Nat.le_of_eq rfl) (hb hby at_193) (fun _ _ => ⟨rfl, e605, (by decide : 12 + 1 ≤ _), (by decide : 44 + 4 ≤ _)⟩)
  dsimp only [Pt.U, Pt.locs, Pt.cells, Pt.slots] at X607 l607 y607 z607 st607 hQ607
  subst l607 y607 z607
  obtain ⟨c_607, rfl, N607q, K607, f607_0, f607_1, f607_2⟩ := hQ607
  have N607 := Fr.app N605 N607q
  have Z612 : n0 ≤ T607.heap.size := Nat.le_trans Z606 K607.1
  have K0_612 : Keep h0 T607.heap [] := K0_606.trans K607 all0
  have O612 : Old Z n0 T607.heap := O606.keep K607 all0
  have R612 : CHr Z own_EL s.vm h0 T582.vm T607.heap := R606.trans (CHr.keep K607 sf0 R606.1)
  have hk612 : T582.heap.size ≤ T607.heap.size := Nat.le_trans hk606 K607.1
  have sf612_b568 : Safe Z own_EL T582.vm T607.heap b568 := Safe.keep K607 sf0 R606.1 sf606_b568
  have sf612_c_595 : Safe Z own_EL T582.vm T607.heap c_595 := Safe.keep K607 sf0 R606.1 sf606_c_595
  have lo_c_607 : h605.size ≤ c_607 := f607_0
  have g_c_607 : n0 ≤ c_607 := Nat.le_trans Z606 lo_c_607
  have l0_c_607 : h0.size ≤ c_607 := Nat.le_trans K0_606.1 lo_c_607
  have sfc607 : Safe Z own_EL T582.vm T607.heap c_607 := Safe.keep K607 sf0 R606.1 (Safe.new lo_c_607)
  -- pc 203: com/example/larkbridge/larkbridge/mcp/McpResourceContentsBinaryPinLaw.same
  obtain ⟨_, _, ⟨T613, L613, k613, n613⟩, -, X613, ⟨Lc613, hQ613, l613, y613, z613⟩, st613⟩ := Jvm.LawKit.callS X607 hx (y := y12) hw582 (mvT hZ582 (W 74 rfl)) (mvT hZ582 (W 75 rfl)) (mvT hZ582 (W 2 rfl)) (mvT hZ582 (W 76 rfl)) (by decide) (backOf (W := 0) (rmsame4 l Z a0 G1 hG [] c_607 p2 k568 T607.heap n0 Z612 O612 f607_2) hZ582 (W 76 rfl) (W 2 rfl) (by decide) (by decide)) (g := (mkF m 203 #[.val (.int p0), .val (.int p1), .val (.int p2), .val (.int p3), .val (.ref b_566), .val (.int vm_), .val .null, .val (.int (4 : Int32)), .val (.ref b568), .val (.ref b_582), .val (.ref c_595), .val (.int (1 : Int32)), .val (.ref c_607), .unset, .unset, .unset, .unset, .unset, .unset, .unset] [(.int p2), (.int (4 : Int32)), (.ref c_607)])) rfl (by rw [hml]; rfl) (argsL := [(.ref c_607), (.int (4 : Int32)), (.int p2)]) (rest := []) (lenOf pd___BII_Z rfl) rfl (by show 2 * 0 + _ ≤ _; exact Nat.le_of_eq rfl) (hb hby at_203) (fun _ _ => ⟨rfl, rfl, (by decide : 13 + 0 ≤ _), (by decide : 48 + 0 ≤ _)⟩)
  dsimp only [Pt.U, Pt.locs, Pt.cells, Pt.slots] at X613 l613 y613 z613 st613 hQ613
  subst l613 y613 z613
  obtain ⟨rfl, N613q, eq613⟩ := hQ613
  have N613 := Fr.app N607 N613q
  have f615 := (((((f582_5.other W589 (Or.inl (Ne.symm (Nat.ne_of_lt (Nat.lt_of_lt_of_le f584.lt lo_b_582))))).other W593 (Or.inl (Ne.symm (Nat.ne_of_lt (Nat.lt_of_lt_of_le f584.lt lo_b_582))))).keep K595 nin0).other W605 (Or.inl (Nat.ne_of_lt (Nat.lt_of_lt_of_le f599.lt lo_c_595)))).keep K607 nin0)
  have f616 := (f611.keep K607)
  obtain ⟨cq614, kq614, q614a, q614b, q614c⟩ := isOf hZ582 eq613 f616
  -- pc 210: com/example/larkbridge/larkbridge/mcp/McpResourceContents.uri
  obtain ⟨_, _, ⟨T614, L614, k614, n614⟩, -, X614, ⟨Lc614, hQ614, l614, y614, z614⟩, st614⟩ := X613.virtualBack hx (y := y7) (z := y7) hw582 (mvT hZ582 (W 77 rfl)) (mvT hZ582 (W 78 rfl)) (notFace_of_selects (args := #[]) (mvT hZ582 (W 80 rfl))) (mvT hZ582 (W 80 rfl)) (mvT hZ582 (W 79 rfl)) (by decide) (backOf (W := 0) (rmG_McpResourceContents_uri l Z a0 G1 hG [] b_582 (.ref b_566) T607.heap n0 Z612 O612 f615 rfl) hZ582 (W 81 rfl) (W 36 rfl) (by decide) (by decide)) q614a q614c (g := (mkF m 210 #[.val (.int p0), .val (.int p1), .val (.int p2), .val (.int p3), .val (.ref b_566), .val (.int vm_), .val .null, .val (.int (4 : Int32)), .val (.ref b568), .val (.ref b_582), .val (.ref c_595), .val (.int (1 : Int32)), .val (.ref c_607), .val (.int (1 : Int32)), .unset, .unset, .unset, .unset, .unset, .unset] [(.ref b_582)])) rfl (by rw [hml]; rfl) (Steps.refl _) (argsL := []) (rest := []) (lenOf pd___Ljava_lang_String_ rfl) rfl (by show 2 * 0 + _ ≤ _; exact Nat.le_of_eq rfl) (hb hby at_210) (fun _ _ => ⟨rfl, eq613, (by decide : 13 + 0 ≤ _), (by decide : 48 + 0 ≤ _)⟩)
  dsimp only [Pt.U, Pt.locs, Pt.cells, Pt.slots] at X614 l614 y614 z614 st614 hQ614
  subst l614 y614 z614
  obtain ⟨rfl, N614q, eq614⟩ := hQ614
  have N614 := Fr.app N613 N614q
  have f618 := ((((((f583.keep K582).wr W589).wr W593).keep K595).wr W605).keep K607)
  obtain ⟨cq617, kq617, q617a, q617b, q617c⟩ := isOf hZ582 eq614 f618
  -- pc 219: java/lang/String.equals
  obtain ⟨_, _, ⟨T617, L617, k617, n617⟩, -, X617, ⟨Lc617, hQ617, l617, y617, z617⟩, st617⟩ := X614.virtualBack hx (y := y11) (z := y11) hw582 (mvT hZ582 (W 82 rfl)) (mvT hZ582 (W 83 rfl)) (notFace_of_selects (args := #[]) (mvT hZ582 (W 85 rfl))) (mvT hZ582 (W 85 rfl)) (mvT hZ582 (W 84 rfl)) (by decide) (backOf (W := 0) (rmeqs l Z a0 G1 hG [] b_566 T607.heap n0 Z612 O612) hZ582 (W 86 rfl) (W 6 rfl) (by decide) (by decide)) q617a q617c (g := (mkF m 219 #[.val (.int p0), .val (.int p1), .val (.int p2), .val (.int p3), .val (.ref b_566), .val (.int vm_), .val .null, .val (.int (4 : Int32)), .val (.ref b568), .val (.ref b_582), .val (.ref c_595), .val (.int (1 : Int32)), .val (.ref c_607), .val (.int (1 : Int32)), .val (.ref b_566), .unset, .unset, .unset, .unset, .unset] [(.ref b_566), (.ref b_566)])) rfl (by rw [hml]; rfl) (Steps.refl _) (argsL := [(.ref b_566)]) (rest := []) (lenOf pd__Ljava_lang_Object__Z rfl) rfl (by show 2 * 0 + _ ≤ _; exact Nat.le_of_eq rfl) (hb hby at_219) (fun _ _ => ⟨rfl, eq614, (by decide : 13 + 0 ≤ _), (by decide : 48 + 0 ≤ _)⟩)
  dsimp only [Pt.U, Pt.locs, Pt.cells, Pt.slots] at X617 l617 y617 z617 st617 hQ617
  subst l617 y617 z617
  obtain ⟨rfl, N617q, eq617⟩ := hQ617
  have N617 := Fr.app N614 N617q
  have f620 := (((((f582_6.other W589 (Or.inl (Ne.symm (Nat.ne_of_lt (Nat.lt_of_lt_of_le f584.lt lo_b_582))))).other W593 (Or.inl (Ne.symm (Nat.ne_of_lt (Nat.lt_of_lt_of_le f584.lt lo_b_582))))).keep K595 nin0).other W605 (Or.inl (Nat.ne_of_lt (Nat.lt_of_lt_of_le f599.lt lo_c_595)))).keep K607 nin0)
  obtain ⟨cq619, kq619, q619a, q619b, q619c⟩ := isOf hZ582 eq617 f616
  -- pc 226: com/example/larkbridge/larkbridge/mcp/McpResourceContents.mimeType
  obtain ⟨_, _, ⟨T619, L619, k619, n619⟩, -, X619, ⟨Lc619, hQ619, l619, y619, z619⟩, st619⟩ := X617.virtualBack hx (y := y8) (z := y8) hw582 (mvT hZ582 (W 87 rfl)) (mvT hZ582 (W 88 rfl)) (notFace_of_selects (args := #[]) (mvT hZ582 (W 90 rfl))) (mvT hZ582 (W 90 rfl)) (mvT hZ582 (W 89 rfl)) (by decide) (backOf (W := 0) (rmG_McpResourceContents_mimeType l Z a0 G1 hG [] b_582 .null T607.heap n0 Z612 O612 f620 rfl) hZ582 (W 91 rfl) (W 36 rfl) (by decide) (by decide)) q619a q619c (g := (mkF m 226 #[.val (.int p0), .val (.int p1), .val (.int p2), .val (.int p3), .val (.ref b_566), .val (.int vm_), .val .null, .val (.int (4 : Int32)), .val (.ref b568), .val (.ref b_582), .val (.ref c_595), .val (.int (1 : Int32)), .val (.ref c_607), .val (.int (1 : Int32)), .val (.ref b_566), .val (.int (1 : Int32)), .unset, .unset, .unset, .unset] [(.ref b_582)])) rfl (by rw [hml]; rfl) (Steps.refl _) (argsL := []) (rest := []) (lenOf pd___Ljava_lang_String_ rfl) rfl (by show 2 * 0 + _ ≤ _; exact Nat.le_of_eq rfl) (hb hby at_226) (fun _ _ => ⟨rfl, eq617, (by decide : 13 + 0 ≤ _), (by decide : 48 + 0 ≤ _)⟩)
  dsimp only [Pt.U, Pt.locs, Pt.cells, Pt.slots] at X619 l619 y619 z619 st619 hQ619
  subst l619 y619 z619
  obtain ⟨rfl, N619q, eq619⟩ := hQ619
  have N619 := Fr.app N617 N619q
  have f622 := (((((f582_7.other W589 (Or.inl (Ne.symm (Nat.ne_of_lt (Nat.lt_of_lt_of_le f584.lt lo_b_582))))).other W593 (Or.inl (Ne.symm (Nat.ne_of_lt (Nat.lt_of_lt_of_le f584.lt lo_b_582))))).keep K595 nin0).other W605 (Or.inl (Nat.ne_of_lt (Nat.lt_of_lt_of_le f599.lt lo_c_595)))).keep K607 nin0)
  obtain ⟨cq621, kq621, q621a, q621b, q621c⟩ := isOf hZ582 eq619 f616
  -- pc 260: com/example/larkbridge/larkbridge/mcp/McpResourceContents.isText
  obtain ⟨_, _, ⟨T621, L621, k621, n621⟩, -, X621, ⟨Lc621, hQ621, l621, y621, z621⟩, st621⟩ := X619.virtualBack hx (y := y9) (z := y9) hw582 (mvT hZ582 (W 92 rfl)) (mvT hZ582 (W 93 rfl)) (notFace_of_selects (args := #[]) (mvT hZ582 (W 95 rfl))) (mvT hZ582 (W 95 rfl)) (mvT hZ582 (W 94 rfl)) (by decide) (backOf (W := 0) (rmist l Z a0 G1 hG [] b_582 T607.heap n0 Z612 O612 f622) hZ582 (W 96 rfl) (W 36 rfl) (by decide) (by decide)) q621a q621c (g := (mkF m 260 #[.val (.int p0), .val (.int p1), .val (.int p2), .val (.int p3), .val (.ref b_566), .val (.int vm_), .val .null, .val (.int (4 : Int32)), .val (.ref b568), .val (.ref b_582), .val (.ref c_595), .val (.int (1 : Int32)), .val (.ref c_607), .val (.int (1 : Int32)), .val (.ref b_566), .val (.int (1 : Int32)), .val .null, .val (.int (1 : Int32)), .unset, .unset] [(.ref b_582)])) rfl (by rw [hml]; rfl) (Steps.refl _) (argsL := []) (rest := []) (lenOf pd___Z rfl) rfl (by show 2 * 0 + _ ≤ _; exact Nat.le_of_eq rfl) (hb hby at_260) (fun _ _ => ⟨rfl, eq619, (by decide : 13 + 0 ≤ _), (by decide : 48 + 0 ≤ _)⟩)
  dsimp only [Pt.U, Pt.locs, Pt.cells, Pt.slots] at X621 l621 y621 z621 st621 hQ621
  subst l621 y621 z621
  obtain ⟨rfl, N621q, eq621⟩ := hQ621
  have N621 := Fr.app N619 N621q
  obtain ⟨cq623, kq623, q623a, q623b, q623c⟩ := isOf hZ582 eq621 f616
  -- pc 275: com/example/larkbridge/larkbridge/mcp/McpResourceContents.text
  obtain ⟨_, _, ⟨T623, L623, k623, n623⟩, -, X623, ⟨Lc623, hQ623, l623, y623, z623⟩, st623⟩ := X621.virtualBack hx (y := y10) (z := y10) hw582 (mvT hZ582 (W 97 rfl)) (mvT hZ582 (W 98 rfl)) (notFace_of_selects (args := #[]) (mvT hZ582 (W 100 rfl))) (mvT hZ582 (W 100 rfl)) (mvT hZ582 (W 99 rfl)) (by decide) (backOf (W := 0) (rmtxt l Z a0 G1 hG [] b_582 T607.heap n0 Z612 O612 f622) hZ582 (W 101 rfl) (W 36 rfl) (by decide) (by decide)) q623a q623c (g := (mkF m 275 #[.val (.int p0), .val (.int p1), .val (.int p2), .val (.int p3), .val (.ref b_566), .val (.int vm_), .val .null, .val (.int (4 : Int32)), .val (.ref b568), .val (.ref b_582), .val (.ref c_595), .val (.int (1 : Int32)), .val (.ref c_607), .val (.int (1 : Int32)), .val (.ref b_566), .val (.int (1 : Int32)), .val .null, .val (.int (1 : Int32)), .val (.int (1 : Int32)), .unset] [(.ref b_582)])) rfl (by rw [hml]; rfl) (Steps.refl _) (argsL := []) (rest := []) (lenOf pd___Ljava_lang_String_ rfl) rfl (by show 2 * 0 + _ ≤ _; exact Nat.le_of_eq rfl) (hb hby at_275) (fun _ _ => ⟨rfl, eq621, (by decide : 13 + 0 ≤ _), (by decide : 48 + 0 ≤ _)⟩)
  dsimp only [Pt.U, Pt.locs, Pt.cells, Pt.slots] at X623 l623 y623 z623 st623 hQ623
  subst l623 y623 z623
  obtain ⟨rfl, N623q, eq623⟩ := hQ623
  have N623 := Fr.app N621 N623q
  obtain ⟨fs, hr, hrun, hended, hend⟩ := Jvm.Stand.leaveW (v := some (.int (1 : Int32))) X623 hSn582 (by rw [eq623]; exact hk612) (fun h => by rw [Bd.returns] at h; cases h)
  have hFin := R612.trans (CHv.at X623 hZ582 hEL R612.1)
  refine ⟨_, _, pre0 _ ?_, hrun, hended, _, _, rfl, ?_, ?_, own_mono hend (Nat.le_of_ble_eq_true rfl) (Nat.le_of_ble_eq_true rfl)⟩
  · show Steps p.tables e below (s₁.setTop (mkF m 0 #[.val (.int p0), .val (.int p1), .val (.int p2), .val (.int p3), .unset, .unset, .unset, .unset, .unset, .unset, .unset, .unset, .unset, .unset, .unset, .unset, .unset, .unset, .unset, .unset] [])) _
    refine XS.iloadN X0.here hx rfl (hb hby at_0) rfl ?_
    refine XS.iloadN X0.here hx rfl (hb hby at_1) rfl ?_
    refine XS.iconst X0.here hx rfl (hb hby at_2) ?_
    refine XS.iand X0.here hx rfl (hb hby at_3) rfl ?_
    refine st566.trans ?_
    show Steps p.tables e below (T566.setTop (mkF m 7 #[.val (.int p0), .val (.int p1), .val (.int p2), .val (.int p3), .unset, .unset, .unset, .unset, .unset, .unset, .unset, .unset, .unset, .unset, .unset, .unset, .unset, .unset, .unset, .unset] [(.ref b_566)])) _
    refine XS.astore X566.here hx rfl (hb hby at_7) rfl rfl (l' := #[.val (.int p0), .val (.int p1), .val (.int p2), .val (.int p3), .val (.ref b_566), .unset, .unset, .unset, .unset, .unset, .unset, .unset, .unset, .unset, .unset, .unset, .unset, .unset, .unset, .unset]) rfl ?_
    refine XS.iloadN X566.here hx rfl (hb hby at_9) rfl ?_
    refine XS.iconst X566.here hx rfl (hb hby at_10) ?_
    refine XS.iushr X566.here hx rfl (hb hby at_11) rfl ?_
    refine XS.bipush X566.here hx rfl (hb hby at_12) ?_
    refine XS.iand X566.here hx rfl (hb hby at_14) rfl ?_
    show Steps p.tables e below (T566.setTop (mkF m 15 #[.val (.int p0), .val (.int p1), .val (.int p2), .val (.int p3), .val (.ref b_566), .unset, .unset, .unset, .unset, .unset, .unset, .unset, .unset, .unset, .unset, .unset, .unset, .unset, .unset, .unset] [(.int (((p3.toUInt32 >>> ((2 : Int32) &&& 31).toUInt32).toInt32) &&& (7 : Int32)))])) _
    rw [← hvm]
    show Steps p.tables e below (T566.setTop (mkF m 15 #[.val (.int p0), .val (.int p1), .val (.int p2), .val (.int p3), .val (.ref b_566), .unset, .unset, .unset, .unset, .unset, .unset, .unset, .unset, .unset, .unset, .unset, .unset, .unset, .unset, .unset] [(.int vm_)])) _
    refine XS.istore X566.here hx rfl (hb hby at_15) rfl (l' := #[.val (.int p0), .val (.int p1), .val (.int p2), .val (.int p3), .val (.ref b_566), .val (.int vm_), .unset, .unset, .unset, .unset, .unset, .unset, .unset, .unset, .unset, .unset, .unset, .unset, .unset, .unset]) rfl ?_
    refine XS.iload X566.here hx rfl (hb hby at_17) rfl ?_
    refine XS.ifNo X566.here hx rfl (hb hby at_19) rfl ((if0 _ _).trans (teq ((by rw [hvm]; exact hm) : vm_ = (0 : Int32))).2) ?_
    refine XS.aconstNull X566.here hx rfl (hb hby at_22) ?_
    refine XS.goto X566.here hx rfl (pc0 := 23) (pc' := 34) rfl (hb hby at_23) (by decide) (by decide) ?_
    refine XS.astore X566.here hx rfl (hb hby at_34) rfl rfl (l' := #[.val (.int p0), .val (.int p1), .val (.int p2), .val (.int p3), .val (.ref b_566), .val (.int vm_), .val .null, .unset, .unset, .unset, .unset, .unset, .unset, .unset, .unset, .unset, .unset, .unset, .unset, .unset]) rfl ?_
    refine XS.iloadN X566.here hx rfl (hb hby at_36) rfl ?_
    refine XS.iconst X566.here hx rfl (hb hby at_37) ?_
    show Steps p.tables e below (T566.setTop (mkF m 38 #[.val (.int p0), .val (.int p1), .val (.int p2), .val (.int p3), .val (.ref b_566), .val (.int vm_), .val .null, .unset, .unset, .unset, .unset, .unset, .unset, .unset, .unset, .unset, .unset, .unset, .unset, .unset] [(.int (5 : Int32)), (.int p3)])) _
    refine XS.iushr X566.here hx rfl (hb hby at_38) rfl ?_
    refine XS.bipush X566.here hx rfl (hb hby at_39) ?_
    refine XS.iand X566.here hx rfl (hb hby at_41) rfl ?_
    refine XS.iconst X566.here hx rfl (hb hby at_42) ?_
    refine iremM (g := (mkF m 43 #[.val (.int p0), .val (.int p1), .val (.int p2), .val (.int p3), .val (.ref b_566), .val (.int vm_), .val .null, .unset, .unset, .unset, .unset, .unset, .unset, .unset, .unset, .unset, .unset, .unset, .unset, .unset] [(.int (5 : Int32)), (.int (((p3.toUInt32 >>> ((5 : Int32) &&& 31).toUInt32).toInt32) &&& (7 : Int32)))])) X566 hx rfl (hb hby at_43) rfl (by decide) ?_
    show Steps p.tables e below (T566.setTop (mkF m 44 #[.val (.int p0), .val (.int p1), .val (.int p2), .val (.int p3), .val (.ref b_566), .val (.int vm_), .val .null, .unset, .unset, .unset, .unset, .unset, .unset, .unset, .unset, .unset, .unset, .unset, .unset, .unset] [(.int ((((p3.toUInt32 >>> ((5 : Int32) &&& 31).toUInt32).toInt32) &&& (7 : Int32)) % (5 : Int32)))])) _
    rw [hn]
    show Steps p.tables e below (T566.setTop (mkF m 44 #[.val (.int p0), .val (.int p1), .val (.int p2), .val (.int p3), .val (.ref b_566), .val (.int vm_), .val .null, .unset, .unset, .unset, .unset, .unset, .unset, .unset, .unset, .unset, .unset, .unset, .unset, .unset] [(.int (4 : Int32))])) _
    refine XS.istore X566.here hx rfl (hb hby at_44) rfl (l' := #[.val (.int p0), .val (.int p1), .val (.int p2), .val (.int p3), .val (.ref b_566), .val (.int vm_), .val .null, .val (.int (4 : Int32)), .unset, .unset, .unset, .unset, .unset, .unset, .unset, .unset, .unset, .unset, .unset, .unset]) rfl ?_
    refine XS.iload X566.here hx rfl (hb hby at_46) rfl ?_
    refine st568 _ ?_
    show Steps p.tables e below (T568.setTop (mkF m 50 #[.val (.int p0), .val (.int p1), .val (.int p2), .val (.int p3), .val (.ref b_566), .val (.int vm_), .val .null, .val (.int (4 : Int32)), .unset, .unset, .unset, .unset, .unset, .unset, .unset, .unset, .unset, .unset, .unset, .unset] [(.ref b568)])) _
    refine XS.astore X568.here hx rfl (hb hby at_50) rfl rfl (l' := #[.val (.int p0), .val (.int p1), .val (.int p2), .val (.int p3), .val (.ref b_566), .val (.int vm_), .val .null, .val (.int (4 : Int32)), .val (.ref b568), .unset, .unset, .unset, .unset, .unset, .unset, .unset, .unset, .unset, .unset, .unset]) rfl ?_
    refine XS.iload X568.here hx rfl (hb hby at_52) rfl ?_
    refine XS.ifNo X568.here hx rfl (hb hby at_54) rfl ((if0 _ _).trans (tlt (by decide : (0 : Int32) < (4 : Int32))).2.2.2) ?_
    refine XS.aload X568.here hx rfl (hb hby at_57) rfl rfl ?_
    refine XS.iconst X568.here hx rfl (hb hby at_59) ?_
    refine XS.iloadN X568.here hx rfl (hb hby at_60) rfl ?_
    refine XS.i2b X568.here hx rfl (hb hby at_61) rfl ?_
    refine st571 _ ?_
    show Steps p.tables e below (T571.setTop (mkF m 63 #[.val (.int p0), .val (.int p1), .val (.int p2), .val (.int p3), .val (.ref b_566), .val (.int vm_), .val .null, .val (.int (4 : Int32)), .val (.ref b568), .unset, .unset, .unset, .unset, .unset, .unset, .unset, .unset, .unset, .unset, .unset] [])) _
    refine XS.iload X571.here hx rfl (hb hby at_63) rfl ?_
    refine XS.iconst X571.here hx rfl (hb hby at_65) ?_
    refine XS.icmpNo X571.here hx rfl (hb hby at_66) rfl (tlt (by decide : (1 : Int32) < (4 : Int32))).2.2.2 ?_
    refine XS.aload X571.here hx rfl (hb hby at_69) rfl rfl ?_
    refine XS.iconst X571.here hx rfl (hb hby at_71) ?_
    refine XS.iloadN X571.here hx rfl (hb hby at_72) rfl ?_
    refine XS.bipush X571.here hx rfl (hb hby at_73) ?_
    refine XS.iushr X571.here hx rfl (hb hby at_75) rfl ?_
    show Steps p.tables e below (T571.setTop (mkF m 76 #[.val (.int p0), .val (.int p1), .val (.int p2), .val (.int p3), .val (.ref b_566), .val (.int vm_), .val .null, .val (.int (4 : Int32)), .val (.ref b568), .unset, .unset, .unset, .unset, .unset, .unset, .unset, .unset, .unset, .unset, .unset] [(.int ((p2.toUInt32 >>> ((8 : Int32) &&& 31).toUInt32).toInt32)), (.int (1 : Int32)), (.ref b568)])) _
    refine XS.i2b X571.here hx rfl (hb hby at_76) rfl ?_
    refine st574 _ ?_
    show Steps p.tables e below (T574.setTop (mkF m 78 #[.val (.int p0), .val (.int p1), .val (.int p2), .val (.int p3), .val (.ref b_566), .val (.int vm_), .val .null, .val (.int (4 : Int32)), .val (.ref b568), .unset, .unset, .unset, .unset, .unset, .unset, .unset, .unset, .unset, .unset, .unset] [])) _
    refine XS.iload X574.here hx rfl (hb hby at_78) rfl ?_
    refine XS.iconst X574.here hx rfl (hb hby at_80) ?_
    refine XS.icmpNo X574.here hx rfl (hb hby at_81) rfl (tlt (by decide : (2 : Int32) < (4 : Int32))).2.2.2 ?_
    refine XS.aload X574.here hx rfl (hb hby at_84) rfl rfl ?_
    refine XS.iconst X574.here hx rfl (hb hby at_86) ?_
    refine XS.iloadN X574.here hx rfl (hb hby at_87) rfl ?_
    refine XS.bipush X574.here hx rfl (hb hby at_88) ?_
    refine XS.iushr X574.here hx rfl (hb hby at_90) rfl ?_
    show Steps p.tables e below (T574.setTop (mkF m 91 #[.val (.int p0), .val (.int p1), .val (.int p2), .val (.int p3), .val (.ref b_566), .val (.int vm_), .val .null, .val (.int (4 : Int32)), .val (.ref b568), .unset, .unset, .unset, .unset, .unset, .unset, .unset, .unset, .unset, .unset, .unset] [(.int ((p2.toUInt32 >>> ((16 : Int32) &&& 31).toUInt32).toInt32)), (.int (2 : Int32)), (.ref b568)])) _
    refine XS.i2b X574.here hx rfl (hb hby at_91) rfl ?_
    refine st577 _ ?_
    show Steps p.tables e below (T577.setTop (mkF m 93 #[.val (.int p0), .val (.int p1), .val (.int p2), .val (.int p3), .val (.ref b_566), .val (.int vm_), .val .null, .val (.int (4 : Int32)), .val (.ref b568), .unset, .unset, .unset, .unset, .unset, .unset, .unset, .unset, .unset, .unset, .unset] [])) _
    refine XS.iload X577.here hx rfl (hb hby at_93) rfl ?_
    refine XS.iconst X577.here hx rfl (hb hby at_95) ?_
    refine XS.icmpNo X577.here hx rfl (hb hby at_96) rfl (tlt (by decide : (3 : Int32) < (4 : Int32))).2.2.2 ?_
    refine XS.aload X577.here hx rfl (hb hby at_99) rfl rfl ?_
    refine XS.iconst X577.here hx rfl (hb hby at_101) ?_
    refine XS.iloadN X577.here hx rfl (hb hby at_102) rfl ?_
    refine XS.bipush X577.here hx rfl (hb hby at_103) ?_
    refine XS.iushr X577.here hx rfl (hb hby at_105) rfl ?_
    show Steps p.tables e below (T577.setTop (mkF m 106 #[.val (.int p0), .val (.int p1), .val (.int p2), .val (.int p3), .val (.ref b_566), .val (.int vm_), .val .null, .val (.int (4 : Int32)), .val (.ref b568), .unset, .unset, .unset, .unset, .unset, .unset, .unset, .unset, .unset, .unset, .unset] [(.int ((p2.toUInt32 >>> ((24 : Int32) &&& 31).toUInt32).toInt32)), (.int (3 : Int32)), (.ref b568)])) _
    refine XS.i2b X577.here hx rfl (hb hby at_106) rfl ?_
    refine st580 _ ?_
    show Steps p.tables e below (T580.setTop (mkF m 108 #[.val (.int p0), .val (.int p1), .val (.int p2), .val (.int p3), .val (.ref b_566), .val (.int vm_), .val .null, .val (.int (4 : Int32)), .val (.ref b568), .unset, .unset, .unset, .unset, .unset, .unset, .unset, .unset, .unset, .unset, .unset] [])) _
    refine XS.aload X580.here hx rfl (hb hby at_108) rfl rfl ?_
    refine XS.aload X580.here hx rfl (hb hby at_110) rfl rfl ?_
    refine XS.aload X580.here hx rfl (hb hby at_112) rfl rfl ?_
    refine st582.trans ?_
    show Steps p.tables e below (T582.setTop (mkF m 117 #[.val (.int p0), .val (.int p1), .val (.int p2), .val (.int p3), .val (.ref b_566), .val (.int vm_), .val .null, .val (.int (4 : Int32)), .val (.ref b568), .unset, .unset, .unset, .unset, .unset, .unset, .unset, .unset, .unset, .unset, .unset] [(.ref b_582)])) _
    refine XS.astore X582.here hx rfl (hb hby at_117) rfl rfl (l' := #[.val (.int p0), .val (.int p1), .val (.int p2), .val (.int p3), .val (.ref b_566), .val (.int vm_), .val .null, .val (.int (4 : Int32)), .val (.ref b568), .val (.ref b_582), .unset, .unset, .unset, .unset, .unset, .unset, .unset, .unset, .unset, .unset]) rfl ?_
    refine XS.iload X582.here hx rfl (hb hby at_119) rfl ?_
    refine XS.ifNo X582.here hx rfl (hb hby at_121) rfl ((if0 _ _).trans (tlt (by decide : (0 : Int32) < (4 : Int32))).2.2.2) ?_
    refine XS.aload X582.here hx rfl (hb hby at_124) rfl rfl ?_
    refine XS.iconst X582.here hx rfl (hb hby at_126) ?_
    refine XS.aload X582.here hx rfl (hb hby at_127) rfl rfl ?_
    refine XS.iconst X582.here hx rfl (hb hby at_129) ?_
    refine X582.baloadBytes hx (j := (0 : Int32)) (v := (.int ((p2.toInt8.toInt32).toInt8.toInt32))) (own_cell rfl Arq587.1) (State.isArrayOf_alike hZ582.alike Arq587.2.1) Arq587.2.2 hinq587 hatq587 (g := (mkF m 130 #[.val (.int p0), .val (.int p1), .val (.int p2), .val (.int p3), .val (.ref b_566), .val (.int vm_), .val .null, .val (.int (4 : Int32)), .val (.ref b568), .val (.ref b_582), .unset, .unset, .unset, .unset, .unset, .unset, .unset, .unset, .unset, .unset] [(.int (0 : Int32)), (.ref b568), (.int (0 : Int32)), (.ref b568)])) rfl rfl (hb hby at_130) _ ?_
    show Steps p.tables e below (T582.setTop (mkF m 131 #[.val (.int p0), .val (.int p1), .val (.int p2), .val (.int p3), .val (.ref b_566), .val (.int vm_), .val .null, .val (.int (4 : Int32)), .val (.ref b568), .val (.ref b_582), .unset, .unset, .unset, .unset, .unset, .unset, .unset, .unset, .unset, .unset] [(.int ((p2.toInt8.toInt32).toInt8.toInt32)), (.int (0 : Int32)), (.ref b568)])) _
    refine XS.iconst X582.here hx rfl (hb hby at_131) ?_
    refine XS.ixor X582.here hx rfl (hb hby at_132) rfl ?_
    refine XS.i2b X582.here hx rfl (hb hby at_133) rfl ?_
    refine st589 _ ?_
    show Steps p.tables e below (T589.setTop (mkF m 135 #[.val (.int p0), .val (.int p1), .val (.int p2), .val (.int p3), .val (.ref b_566), .val (.int vm_), .val .null, .val (.int (4 : Int32)), .val (.ref b568), .val (.ref b_582), .unset, .unset, .unset, .unset, .unset, .unset, .unset, .unset, .unset, .unset] [])) _
    refine XS.iload X589.here hx rfl (hb hby at_135) rfl ?_
    refine XS.iconst X589.here hx rfl (hb hby at_137) ?_
    refine XS.icmpNo X589.here hx rfl (hb hby at_138) rfl (tlt (by decide : (3 : Int32) < (4 : Int32))).2.2.2 ?_
    refine XS.aload X589.here hx rfl (hb hby at_141) rfl rfl ?_
    refine XS.iconst X589.here hx rfl (hb hby at_143) ?_
    refine XS.aload X589.here hx rfl (hb hby at_144) rfl rfl ?_
    refine XS.iconst X589.here hx rfl (hb hby at_146) ?_
    refine X589.baloadBytes hx (j := (3 : Int32)) (v := (.int ((((p2.toUInt32 >>> ((24 : Int32) &&& 31).toUInt32).toInt32).toInt8.toInt32).toInt8.toInt32))) (own_cell e589 Arq591.1) (State.isArrayOf_alike hZ582.alike Arq591.2.1) Arq591.2.2 hinq591 hatq591 (g := (mkF m 147 #[.val (.int p0), .val (.int p1), .val (.int p2), .val (.int p3), .val (.ref b_566), .val (.int vm_), .val .null, .val (.int (4 : Int32)), .val (.ref b568), .val (.ref b_582), .unset, .unset, .unset, .unset, .unset, .unset, .unset, .unset, .unset, .unset] [(.int (3 : Int32)), (.ref b568), (.int (3 : Int32)), (.ref b568)])) rfl rfl (hb hby at_147) _ ?_
    show Steps p.tables e below (T589.setTop (mkF m 148 #[.val (.int p0), .val (.int p1), .val (.int p2), .val (.int p3), .val (.ref b_566), .val (.int vm_), .val .null, .val (.int (4 : Int32)), .val (.ref b568), .val (.ref b_582), .unset, .unset, .unset, .unset, .unset, .unset, .unset, .unset, .unset, .unset] [(.int ((((p2.toUInt32 >>> ((24 : Int32) &&& 31).toUInt32).toInt32).toInt8.toInt32).toInt8.toInt32)), (.int (3 : Int32)), (.ref b568)])) _
    refine XS.iconst X589.here hx rfl (hb hby at_148) ?_
    refine XS.ixor X589.here hx rfl (hb hby at_149) rfl ?_
    refine XS.i2b X589.here hx rfl (hb hby at_150) rfl ?_
    refine st593 _ ?_
    show Steps p.tables e below (T593.setTop (mkF m 152 #[.val (.int p0), .val (.int p1), .val (.int p2), .val (.int p3), .val (.ref b_566), .val (.int vm_), .val .null, .val (.int (4 : Int32)), .val (.ref b568), .val (.ref b_582), .unset, .unset, .unset, .unset, .unset, .unset, .unset, .unset, .unset, .unset] [])) _
    refine XS.aload X593.here hx rfl (hb hby at_152) rfl rfl ?_
    refine st595.trans ?_
    show Steps p.tables e below (T595.setTop (mkF m 157 #[.val (.int p0), .val (.int p1), .val (.int p2), .val (.int p3), .val (.ref b_566), .val (.int vm_), .val .null, .val (.int (4 : Int32)), .val (.ref b568), .val (.ref b_582), .unset, .unset, .unset, .unset, .unset, .unset, .unset, .unset, .unset, .unset] [(.ref c_595)])) _
    refine XS.astore X595.here hx rfl (hb hby at_157) rfl rfl (l' := #[.val (.int p0), .val (.int p1), .val (.int p2), .val (.int p3), .val (.ref b_566), .val (.int vm_), .val .null, .val (.int (4 : Int32)), .val (.ref b568), .val (.ref b_582), .val (.ref c_595), .unset, .unset, .unset, .unset, .unset, .unset, .unset, .unset, .unset]) rfl ?_
    refine XS.aload X595.here hx rfl (hb hby at_159) rfl rfl ?_
    refine XS.iload X595.here hx rfl (hb hby at_161) rfl ?_
    refine XS.iloadN X595.here hx rfl (hb hby at_163) rfl ?_
    refine st601 _ ?_
    show Steps p.tables e below (T601.setTop (mkF m 167 #[.val (.int p0), .val (.int p1), .val (.int p2), .val (.int p3), .val (.ref b_566), .val (.int vm_), .val .null, .val (.int (4 : Int32)), .val (.ref b568), .val (.ref b_582), .val (.ref c_595), .unset, .unset, .unset, .unset, .unset, .unset, .unset, .unset, .unset] [(.int (1 : Int32))])) _
    refine XS.istore X601.here hx rfl (hb hby at_167) rfl (l' := #[.val (.int p0), .val (.int p1), .val (.int p2), .val (.int p3), .val (.ref b_566), .val (.int vm_), .val .null, .val (.int (4 : Int32)), .val (.ref b568), .val (.ref b_582), .val (.ref c_595), .val (.int (1 : Int32)), .unset, .unset, .unset, .unset, .unset, .unset, .unset, .unset]) rfl ?_
    refine XS.aload X601.here hx rfl (hb hby at_169) rfl rfl ?_
    refine XS.ifnullNo X601.here hx rfl (hb hby at_171) rfl ?_
    refine XS.aload X601.here hx rfl (hb hby at_174) rfl rfl ?_
    refine X601.arraylength hx (own_cell eq601 Arq602.1) (State.isArrayOf_alike hZ582.alike Arq602.2.1) (g := (mkF m 176 #[.val (.int p0), .val (.int p1), .val (.int p2), .val (.int p3), .val (.ref b_566), .val (.int vm_), .val .null, .val (.int (4 : Int32)), .val (.ref b568), .val (.ref b_582), .val (.ref c_595), .val (.int (1 : Int32)), .unset, .unset, .unset, .unset, .unset, .unset, .unset, .unset] [(.ref c_595)])) rfl rfl (hb hby at_176) _ ?_
    rw [len_of Sq602 Nq602]
    refine XS.ifNo X601.here hx rfl (hb hby at_177) rfl ((if0 _ _).trans (tlt (by decide : (0 : Int32) < (4 : Int32))).2.2.2) ?_
    refine XS.aload X601.here hx rfl (hb hby at_180) rfl rfl ?_
    refine XS.iconst X601.here hx rfl (hb hby at_182) ?_
    show Steps p.tables e below (T601.setTop (mkF m 183 #[.val (.int p0), .val (.int p1), .val (.int p2), .val (.int p3), .val (.ref b_566), .val (.int vm_), .val .null, .val (.int (4 : Int32)), .val (.ref b568), .val (.ref b_582), .val (.ref c_595), .val (.int (1 : Int32)), .unset, .unset, .unset, .unset, .unset, .unset, .unset, .unset] [(.int (0 : Int32)), (.ref c_595)])) _
    refine XS.aload X601.here hx rfl (hb hby at_183) rfl rfl ?_
    refine XS.iconst X601.here hx rfl (hb hby at_185) ?_
    refine X601.baloadBytes hx (j := (0 : Int32)) (v := (.int ((p2.toInt8.toInt32).toInt8.toInt32))) (own_cell eq601 Arq603.1) (State.isArrayOf_alike hZ582.alike Arq603.2.1) Arq603.2.2 hinq603 hatq603 (g := (mkF m 186 #[.val (.int p0), .val (.int p1), .val (.int p2), .val (.int p3), .val (.ref b_566), .val (.int vm_), .val .null, .val (.int (4 : Int32)), .val (.ref b568), .val (.ref b_582), .val (.ref c_595), .val (.int (1 : Int32)), .unset, .unset, .unset, .unset, .unset, .unset, .unset, .unset] [(.int (0 : Int32)), (.ref c_595), (.int (0 : Int32)), (.ref c_595)])) rfl rfl (hb hby at_186) _ ?_
    refine XS.iconst X601.here hx rfl (hb hby at_187) ?_
    refine XS.ixor X601.here hx rfl (hb hby at_188) rfl ?_
    refine XS.i2b X601.here hx rfl (hb hby at_189) rfl ?_
    refine st605 _ ?_
    show Steps p.tables e below (T605.setTop (mkF m 191 #[.val (.int p0), .val (.int p1), .val (.int p2), .val (.int p3), .val (.ref b_566), .val (.int vm_), .val .null, .val (.int (4 : Int32)), .val (.ref b568), .val (.ref b_582), .val (.ref c_595), .val (.int (1 : Int32)), .unset, .unset, .unset, .unset, .unset, .unset, .unset, .unset] [])) _
    refine XS.aload X605.here hx rfl (hb hby at_191) rfl rfl ?_
    refine st607.trans ?_
    show Steps p.tables e below (T607.setTop (mkF m 196 #[.val (.int p0), .val (.int p1), .val (.int p2), .val (.int p3), .val (.ref b_566), .val (.int vm_), .val .null, .val (.int (4 : Int32)), .val (.ref b568), .val (.ref b_582), .val (.ref c_595), .val (.int (1 : Int32)), .unset, .unset, .unset, .unset, .unset, .unset, .unset, .unset] [(.ref c_607)])) _
    refine XS.astore X607.here hx rfl (hb hby at_196) rfl rfl (l' := #[.val (.int p0), .val (.int p1), .val (.int p2), .val (.int p3), .val (.ref b_566), .val (.int vm_), .val .null, .val (.int (4 : Int32)), .val (.ref b568), .val (.ref b_582), .val (.ref c_595), .val (.int (1 : Int32)), .val (.ref c_607), .unset, .unset, .unset, .unset, .unset, .unset, .unset]) rfl ?_
    refine XS.aload X607.here hx rfl (hb hby at_198) rfl rfl ?_
    refine XS.iload X607.here hx rfl (hb hby at_200) rfl ?_
    refine XS.iloadN X607.here hx rfl (hb hby at_202) rfl ?_
    refine st613 _ ?_
    show Steps p.tables e below (T613.setTop (mkF m 206 #[.val (.int p0), .val (.int p1), .val (.int p2), .val (.int p3), .val (.ref b_566), .val (.int vm_), .val .null, .val (.int (4 : Int32)), .val (.ref b568), .val (.ref b_582), .val (.ref c_595), .val (.int (1 : Int32)), .val (.ref c_607), .unset, .unset, .unset, .unset, .unset, .unset, .unset] [(.int (1 : Int32))])) _
    refine XS.istore X613.here hx rfl (hb hby at_206) rfl (l' := #[.val (.int p0), .val (.int p1), .val (.int p2), .val (.int p3), .val (.ref b_566), .val (.int vm_), .val .null, .val (.int (4 : Int32)), .val (.ref b568), .val (.ref b_582), .val (.ref c_595), .val (.int (1 : Int32)), .val (.ref c_607), .val (.int (1 : Int32)), .unset, .unset, .unset, .unset, .unset, .unset]) rfl ?_
    refine XS.aload X613.here hx rfl (hb hby at_208) rfl rfl ?_
    refine st614.trans ?_
    show Steps p.tables e below (T614.setTop (mkF m 213 #[.val (.int p0), .val (.int p1), .val (.int p2), .val (.int p3), .val (.ref b_566), .val (.int vm_), .val .null, .val (.int (4 : Int32)), .val (.ref b568), .val (.ref b_582), .val (.ref c_595), .val (.int (1 : Int32)), .val (.ref c_607), .val (.int (1 : Int32)), .unset, .unset, .unset, .unset, .unset, .unset] [(.ref b_566)])) _
    refine XS.astore X614.here hx rfl (hb hby at_213) rfl rfl (l' := #[.val (.int p0), .val (.int p1), .val (.int p2), .val (.int p3), .val (.ref b_566), .val (.int vm_), .val .null, .val (.int (4 : Int32)), .val (.ref b568), .val (.ref b_582), .val (.ref c_595), .val (.int (1 : Int32)), .val (.ref c_607), .val (.int (1 : Int32)), .val (.ref b_566), .unset, .unset, .unset, .unset, .unset]) rfl ?_
    refine XS.aload X614.here hx rfl (hb hby at_215) rfl rfl ?_
    refine XS.aload X614.here hx rfl (hb hby at_217) rfl rfl ?_
    refine st617.trans ?_
    show Steps p.tables e below (T617.setTop (mkF m 222 #[.val (.int p0), .val (.int p1), .val (.int p2), .val (.int p3), .val (.ref b_566), .val (.int vm_), .val .null, .val (.int (4 : Int32)), .val (.ref b568), .val (.ref b_582), .val (.ref c_595), .val (.int (1 : Int32)), .val (.ref c_607), .val (.int (1 : Int32)), .val (.ref b_566), .unset, .unset, .unset, .unset, .unset] [(.int (1 : Int32))])) _
    refine XS.istore X617.here hx rfl (hb hby at_222) rfl (l' := #[.val (.int p0), .val (.int p1), .val (.int p2), .val (.int p3), .val (.ref b_566), .val (.int vm_), .val .null, .val (.int (4 : Int32)), .val (.ref b568), .val (.ref b_582), .val (.ref c_595), .val (.int (1 : Int32)), .val (.ref c_607), .val (.int (1 : Int32)), .val (.ref b_566), .val (.int (1 : Int32)), .unset, .unset, .unset, .unset]) rfl ?_
    refine XS.aload X617.here hx rfl (hb hby at_224) rfl rfl ?_
    refine st619.trans ?_
    show Steps p.tables e below (T619.setTop (mkF m 229 #[.val (.int p0), .val (.int p1), .val (.int p2), .val (.int p3), .val (.ref b_566), .val (.int vm_), .val .null, .val (.int (4 : Int32)), .val (.ref b568), .val (.ref b_582), .val (.ref c_595), .val (.int (1 : Int32)), .val (.ref c_607), .val (.int (1 : Int32)), .val (.ref b_566), .val (.int (1 : Int32)), .unset, .unset, .unset, .unset] [.null])) _
    refine XS.astore X619.here hx rfl (hb hby at_229) rfl rfl (l' := #[.val (.int p0), .val (.int p1), .val (.int p2), .val (.int p3), .val (.ref b_566), .val (.int vm_), .val .null, .val (.int (4 : Int32)), .val (.ref b568), .val (.ref b_582), .val (.ref c_595), .val (.int (1 : Int32)), .val (.ref c_607), .val (.int (1 : Int32)), .val (.ref b_566), .val (.int (1 : Int32)), .val .null, .unset, .unset, .unset]) rfl ?_
    refine XS.aload X619.here hx rfl (hb hby at_231) rfl rfl ?_
    refine XS.ifnonnullNo X619.here hx rfl (hb hby at_233) rfl ?_
    refine XS.aload X619.here hx rfl (hb hby at_236) rfl rfl ?_
    refine XS.ifnonnullNo X619.here hx rfl (hb hby at_238) rfl ?_
    refine XS.iconst X619.here hx rfl (hb hby at_241) ?_
    refine XS.goto X619.here hx rfl (pc0 := 242) (pc' := 256) rfl (hb hby at_242) (by decide) (by decide) ?_
    refine XS.istore X619.here hx rfl (hb hby at_256) rfl (l' := #[.val (.int p0), .val (.int p1), .val (.int p2), .val (.int p3), .val (.ref b_566), .val (.int vm_), .val .null, .val (.int (4 : Int32)), .val (.ref b568), .val (.ref b_582), .val (.ref c_595), .val (.int (1 : Int32)), .val (.ref c_607), .val (.int (1 : Int32)), .val (.ref b_566), .val (.int (1 : Int32)), .val .null, .val (.int (1 : Int32)), .unset, .unset]) rfl ?_
    show Steps p.tables e below (T619.setTop (mkF m 258 #[.val (.int p0), .val (.int p1), .val (.int p2), .val (.int p3), .val (.ref b_566), .val (.int vm_), .val .null, .val (.int (4 : Int32)), .val (.ref b568), .val (.ref b_582), .val (.ref c_595), .val (.int (1 : Int32)), .val (.ref c_607), .val (.int (1 : Int32)), .val (.ref b_566), .val (.int (1 : Int32)), .val .null, .val (.int (1 : Int32)), .unset, .unset] [])) _
    refine XS.aload X619.here hx rfl (hb hby at_258) rfl rfl ?_
    refine st621.trans ?_
    show Steps p.tables e below (T621.setTop (mkF m 263 #[.val (.int p0), .val (.int p1), .val (.int p2), .val (.int p3), .val (.ref b_566), .val (.int vm_), .val .null, .val (.int (4 : Int32)), .val (.ref b568), .val (.ref b_582), .val (.ref c_595), .val (.int (1 : Int32)), .val (.ref c_607), .val (.int (1 : Int32)), .val (.ref b_566), .val (.int (1 : Int32)), .val .null, .val (.int (1 : Int32)), .unset, .unset] [(.int (0 : Int32))])) _
    refine XS.ifNo X621.here hx rfl (hb hby at_263) rfl ((if0 _ _).trans (teq (by decide : (0 : Int32) = (0 : Int32))).2) ?_
    refine XS.iconst X621.here hx rfl (hb hby at_266) ?_
    refine XS.goto X621.here hx rfl (pc0 := 267) (pc' := 271) rfl (hb hby at_267) (by decide) (by decide) ?_
    refine XS.istore X621.here hx rfl (hb hby at_271) rfl (l' := #[.val (.int p0), .val (.int p1), .val (.int p2), .val (.int p3), .val (.ref b_566), .val (.int vm_), .val .null, .val (.int (4 : Int32)), .val (.ref b568), .val (.ref b_582), .val (.ref c_595), .val (.int (1 : Int32)), .val (.ref c_607), .val (.int (1 : Int32)), .val (.ref b_566), .val (.int (1 : Int32)), .val .null, .val (.int (1 : Int32)), .val (.int (1 : Int32)), .unset]) rfl ?_
    refine XS.aload X621.here hx rfl (hb hby at_273) rfl rfl ?_
    refine st623.trans ?_
    show Steps p.tables e below (T623.setTop (mkF m 278 #[.val (.int p0), .val (.int p1), .val (.int p2), .val (.int p3), .val (.ref b_566), .val (.int vm_), .val .null, .val (.int (4 : Int32)), .val (.ref b568), .val (.ref b_582), .val (.ref c_595), .val (.int (1 : Int32)), .val (.ref c_607), .val (.int (1 : Int32)), .val (.ref b_566), .val (.int (1 : Int32)), .val .null, .val (.int (1 : Int32)), .val (.int (1 : Int32)), .unset] [.null])) _
    refine XS.ifnonnullNo X623.here hx rfl (hb hby at_278) rfl ?_
    refine XS.iconst X623.here hx rfl (hb hby at_281) ?_
    refine XS.goto X623.here hx rfl (pc0 := 282) (pc' := 286) rfl (hb hby at_282) (by decide) (by decide) ?_
    refine XS.istore X623.here hx rfl (hb hby at_286) rfl (l' := #[.val (.int p0), .val (.int p1), .val (.int p2), .val (.int p3), .val (.ref b_566), .val (.int vm_), .val .null, .val (.int (4 : Int32)), .val (.ref b568), .val (.ref b_582), .val (.ref c_595), .val (.int (1 : Int32)), .val (.ref c_607), .val (.int (1 : Int32)), .val (.ref b_566), .val (.int (1 : Int32)), .val .null, .val (.int (1 : Int32)), .val (.int (1 : Int32)), .val (.int (1 : Int32))]) rfl ?_
    refine XS.iload X623.here hx rfl (hb hby at_288) rfl ?_
    refine XS.ifNo X623.here hx rfl (hb hby at_290) rfl ((if0 _ _).trans (feq (by decide : ¬ ((1 : Int32) = (0 : Int32)))).1) ?_
    refine XS.iload X623.here hx rfl (hb hby at_293) rfl ?_
    refine XS.ifNo X623.here hx rfl (hb hby at_295) rfl ((if0 _ _).trans (feq (by decide : ¬ ((1 : Int32) = (0 : Int32)))).1) ?_
    show Steps p.tables e below (T623.setTop (mkF m 298 #[.val (.int p0), .val (.int p1), .val (.int p2), .val (.int p3), .val (.ref b_566), .val (.int vm_), .val .null, .val (.int (4 : Int32)), .val (.ref b568), .val (.ref b_582), .val (.ref c_595), .val (.int (1 : Int32)), .val (.ref c_607), .val (.int (1 : Int32)), .val (.ref b_566), .val (.int (1 : Int32)), .val .null, .val (.int (1 : Int32)), .val (.int (1 : Int32)), .val (.int (1 : Int32))] [])) _
    refine XS.iload X623.here hx rfl (hb hby at_298) rfl ?_
    refine XS.ifNo X623.here hx rfl (hb hby at_300) rfl ((if0 _ _).trans (feq (by decide : ¬ ((1 : Int32) = (0 : Int32)))).1) ?_
    refine XS.iload X623.here hx rfl (hb hby at_303) rfl ?_
    refine XS.ifNo X623.here hx rfl (hb hby at_305) rfl ((if0 _ _).trans (feq (by decide : ¬ ((1 : Int32) = (0 : Int32)))).1) ?_
    refine XS.iload X623.here hx rfl (hb hby at_308) rfl ?_
    refine XS.ifNo X623.here hx rfl (hb hby at_310) rfl ((if0 _ _).trans (feq (by decide : ¬ ((1 : Int32) = (0 : Int32)))).1) ?_
    refine XS.iload X623.here hx rfl (hb hby at_313) rfl ?_
    refine XS.ifNo X623.here hx rfl (hb hby at_315) rfl ((if0 _ _).trans (feq (by decide : ¬ ((1 : Int32) = (0 : Int32)))).1) ?_
    show Steps p.tables e below (T623.setTop (mkF m 318 #[.val (.int p0), .val (.int p1), .val (.int p2), .val (.int p3), .val (.ref b_566), .val (.int vm_), .val .null, .val (.int (4 : Int32)), .val (.ref b568), .val (.ref b_582), .val (.ref c_595), .val (.int (1 : Int32)), .val (.ref c_607), .val (.int (1 : Int32)), .val (.ref b_566), .val (.int (1 : Int32)), .val .null, .val (.int (1 : Int32)), .val (.int (1 : Int32)), .val (.int (1 : Int32))] [])) _
    refine XS.iconst X623.here hx rfl (hb hby at_318) ?_
    refine XS.goto X623.here hx rfl (pc0 := 319) (pc' := 323) rfl (hb hby at_319) (by decide) (by decide) ?_
    exact retN X623 hx (t := .boolean) Bd.returns (by simp) (hb hby at_323) hr
  · show Q0 Z G1 p0 p1 p2 p3 h0 n0 _ T623.heap _
    rw [eq623]
    exact ⟨rfl, N623, K0_612⟩
  · show CHr Z own_EL s.vm s.heap T623.vm T623.heap
    rw [hh, eq623]
    exact hFin
theorem own_n5 (x : Int32) : ((x &&& (7 : Int32)) % (5 : Int32)) = (0 : Int32) ∨ ((x &&& (7 : Int32)) % (5 : Int32)) = (1 : Int32) ∨ ((x &&& (7 : Int32)) % (5 : Int32)) = (2 : Int32) ∨ ((x &&& (7 : Int32)) % (5 : Int32)) = (3 : Int32) ∨ ((x &&& (7 : Int32)) % (5 : Int32)) = (4 : Int32) := by
  have t : ∀ k : Fin 8, (Int32.ofNat k.val % (5 : Int32)) = (0 : Int32) ∨ (Int32.ofNat k.val % (5 : Int32)) = (1 : Int32) ∨ (Int32.ofNat k.val % (5 : Int32)) = (2 : Int32) ∨ (Int32.ofNat k.val % (5 : Int32)) = (3 : Int32) ∨ (Int32.ofNat k.val % (5 : Int32)) = (4 : Int32) := by decide +kernel
  have h : (x &&& 7).toBitVec.toNat < 8 := by
    simp only [Int32.toBitVec_and, BitVec.toNat_and]
    exact Nat.lt_succ_of_le Nat.and_le_right
  have e : (x &&& 7) = Int32.ofNat (x &&& 7).toBitVec.toNat := by
    apply Int32.toBitVec_inj.mp
    show _ = BitVec.ofNat 32 _
    rw [BitVec.ofNat_toNat]; simp
  rw [e]
  exact t ⟨_, h⟩
set_option maxRecDepth 65536 in
theorem rm0 (l : Launch) (Z : State) (a0 : Array Value) (G1 : Int32) (hG : Glob Z a0 G1) (ws : List Jvm.Cond) (p0 : Int32) (p1 : Int32) (p2 : Int32) (p3 : Int32) (h0 : Heap) (n0 : Nat) (Z0 : n0 ≤ h0.size) (X00 : Old Z n0 h0) :
    MetFree l x (head1 (Jvm.Cond.code x code maxLocals ret :: ws) room_1) (fun a U => a = #[(.int p0), (.int p1), (.int p2), (.int p3)] ∧ Z.Warmed39 U.vm ∧ U.heap = h0 ∧ CHv Z own_EL U.vm h0) (fun _ _ _ _ _ => True) (fun _ U o U' => ∃ v L, o = .returned v ∧ Q0 Z G1 p0 p1 p2 p3 h0 n0 v U'.heap L ∧ CHr Z own_EL U.vm U.heap U'.vm U'.heap ∧ ReturnedEndW U o U' L room_1.cells room_1.slots) := by
  by_cases hm : (((p3.toUInt32 >>> ((2 : Int32) &&& 31).toUInt32).toInt32) &&& (7 : Int32)) = (0 : Int32) <;> rcases own_n5 ((p3.toUInt32 >>> ((5 : Int32) &&& 31).toUInt32).toInt32) with h | h | h | h | h
  · exact rm0_0f l Z a0 G1 hG ws p0 p1 p2 p3 h0 n0 Z0 X00 h hm
  · exact rm0_1f l Z a0 G1 hG ws p0 p1 p2 p3 h0 n0 Z0 X00 h hm
  · exact rm0_2f l Z a0 G1 hG ws p0 p1 p2 p3 h0 n0 Z0 X00 h hm
  · exact rm0_3f l Z a0 G1 hG ws p0 p1 p2 p3 h0 n0 Z0 X00 h hm
  · exact rm0_4f l Z a0 G1 hG ws p0 p1 p2 p3 h0 n0 Z0 X00 h hm
  · exact rm0_0t l Z a0 G1 hG ws p0 p1 p2 p3 h0 n0 Z0 X00 h hm
  · exact rm0_1t l Z a0 G1 hG ws p0 p1 p2 p3 h0 n0 Z0 X00 h hm
  · exact rm0_2t l Z a0 G1 hG ws p0 p1 p2 p3 h0 n0 Z0 X00 h hm
  · exact rm0_3t l Z a0 G1 hG ws p0 p1 p2 p3 h0 n0 Z0 X00 h hm
  · exact rm0_4t l Z a0 G1 hG ws p0 p1 p2 p3 h0 n0 Z0 X00 h hm
set_option maxRecDepth 65536 in
set_option maxHeartbeats 40000000 in
theorem comes_1 {Post : Tables → Env → Array Value → State → Outcome → State → Prop} (hpost : ∀ tb e args s v u, (limb_1_1.after args s (.returned v) u = true ∧ limb_1_2.after args s (.returned v) u = true ∧ True) → ReturnedEndW s (.returned v) u (Jvm.fieldLocs frame_1_writes args s ++ Jvm.arrayLocs frame_1_arrays args s ++ Jvm.staticLocs frame_1_statics s) 40 2240 → Post tb e args s (.returned v) u) :
    ArmFor flags0 classFile x code maxLocals ret World_1 tables_1 room_1 Calls_1 rest_1 Pre_1 Post := by
  intro l hfl _ _ p e ha hc hk s m args below hf hA hF happ hP
  obtain ⟨hcalls, hrest, hpre⟩ := hP
  obtain ⟨-, -, -, hnamed, -, -, -, hat⟩ := (Spec.applies_iff hf).mp happ
  obtain ⟨hg, hn⟩ := and_e (Cond.before_iff.mp (show (Jvm.Cond.and given_1 narrow_1).before args s = true from hpre))
  obtain ⟨gc, gr0⟩ := and_e hg
  obtain ⟨ga0, gr1⟩ := and_e gr0
  obtain ⟨ga1, gr2⟩ := and_e gr1
  obtain ⟨ga2, gr3⟩ := and_e gr2
  obtain ⟨w0, w1, w2, w3, rfl⟩ : ∃ w0 w1 w2 w3 : Value, args = #[w0, w1, w2, w3] := by
    have hs : args.size = 4 := by simpa [Cond.value, given_1] using gc
    obtain ⟨L⟩ := args
    match L, hs with
    | [w0, w1, w2, w3], _ => exact ⟨w0, w1, w2, w3, rfl⟩
  have hw := fun d (hd : d ∈ tables_1) => atoms_spec (ws := Jvm.Cond.code x code maxLocals ret :: tables_1) hat d (List.mem_cons_of_mem _ hd)
  have hfit : Fit s := fun {y c} hc i hi => by
    obtain ⟨ha, rfl⟩ := Array.getElem?_eq_some_iff.mp hc
    have q := List.all_eq_true.mp ((Array.all_eq_true_iff_forall_mem.mp hF) _ (Array.getElem_mem ha)) i (List.mem_range.mpr hi)
    simpa [Array.getElem?_eq_getElem hi] using q
  obtain ⟨hsets, hown0⟩ := atoms_of _ (rest_1_c_eq ▸ (show rest_1_c.before _ s = true from hrest))
  obtain ⟨i0, ei0⟩ := is_v ga0
  obtain rfl : w0 = (.int i0) := Option.some.inj ei0
  obtain ⟨i1, ei1⟩ := is_v ga1
  obtain rfl : w1 = (.int i1) := Option.some.inj ei1
  obtain ⟨i2, ei2⟩ := is_v ga2
  obtain rfl : w2 = (.int i2) := Option.some.inj ei2
  obtain ⟨i3, ei3⟩ := is_v gr3
  obtain rfl : w3 = (.int i3) := Option.some.inj ei3
  have W : ∀ (i : Nat) {d : Jvm.Cond}, tables_1[i]? = some d → d.before _ s = true := fun i d h => hw d (List.mem_of_getElem? h)
  obtain ⟨G, eG⟩ := is_v (Cond.before_iff.mp (hsets _ (List.mem_of_getElem? (i := 1) rfl)))
  have nG := not_v (Cond.before_iff.mp (hsets _ (List.mem_of_getElem? (i := 2) rfl)))
  have SG : Sta s s.heap "java/lang/String" "COMPACT_STRINGS" "Z" (.int G) := Sta.start eG (Or.inl (hsets _ (List.mem_of_getElem? (i := 0) rfl)))
  have cG : ¬ (G = (0 : Int32)) := gotF (Cond.eq_ints eG (Term.int_eval (0))) nG
  have own_held : ∀ p ∈ own_EL, Jvm.Lit.constHeld s p.1 p.2 := fun p hp => hcalls.1 p ((by decide : ∀ p ∈ own_EL, p ∈ consts_1) p hp)
  have hG : Glob s _ G := ⟨hw, SG, cG⟩
  have hCH : CHv s own_EL s.vm s.heap := CHv.start (own_ew hw) own_held (hsets _ (List.mem_of_getElem? (i := 2) rfl)) (W 23 rfl) (W 5 rfl)
  obtain ⟨n, o, h1, h2, h3, _, L, rfl, ⟨rfl, N, -⟩, -, hq⟩ := rm0 l s _ G hG tables_1 i0 i1 i2 i3 s.heap s.heap.size (Nat.le_refl _) (Old.start s) p e ha hc hk s m _ below hf ((Spec.applies_iff_loose hf).mp happ).1 ⟨rfl, State.Warmed39.refl s, rfl, hCH⟩ trivial
  refine ⟨n, _, h1, h2, h3, hpost _ _ _ _ _ _ ⟨Cond.after_iff.mpr rfl, Cond.after_iff.mpr (eq_i res_at (Term.int_eval (1)) rfl), trivial⟩ ⟨hq.1, hq.2.1, hq.2.2.1, (hq.2.2.2.sift fun y hy => Or.inr (N y hy)).mono (by decide) (by decide)⟩⟩
theorem main_1_1 : Claimed_1_1 := comes_1 fun _ _ _ _ _ _ h hF => ⟨h.1, hF⟩
theorem main_1_2 : Claimed_1_2 := comes_1 fun _ _ _ _ _ _ h hF => ⟨h.2.1, hF⟩
end Jvm.Pilot.@@N@@
namespace Jvm.Pilot.@@N@@
open Jvm Jvm.ClassFile Sem Op Lib Jvm.Free Jvm.Stand Jvm.Pilot.@@N@@.Jvm.D
/-! MADE BY PROGRAM (witnessworld.py) out of the Statement's table words and the real class files: 21 classes; the members and pool entries that the words name. The judged class is class 1, her method 1. -/
namespace start1
open Jvm.ClassFile
def u (s : String) : CpInfo := .utf8 (stringToUtf16 s)
/-- a pool by its gaps: so many unusable entries, then the entry; so many at the end -/
def gap : Nat → List CpInfo → List CpInfo
  | 0, r => r
  | n + 1, r => .unusable :: gap n r
def poolList (es : List (Nat × CpInfo)) (last : Nat) : List CpInfo := es.foldr (fun e r => gap e.1 (e.2 :: r)) (gap last [])
def pool (es : List (Nat × CpInfo)) (last : Nat) : Array CpInfo := ⟨poolList es last⟩
def fileOf (pool : Array CpInfo) (this : Nat) (attrs : Array Attribute := #[]) (ms : Array MethodInfo := #[]) (fl : Nat := 33) (sup : Nat := 0) (ifs : Array Nat := #[]) (fds : Array FieldInfo := #[]) : ClassFile where
  minorVersion := 0
  majorVersion := 65
  constantPool := pool
  accessFlags := fl
  thisClass := this
  superClass := sup
  interfaces := ifs
  fields := fds
  methods := ms
  attributes := attrs
def plain (name : String) (sup : Option ClassId) : Class where
  name := name
  kind := .ordinary
  loader := none
  accessFlags := 33
  super := sup
  interfaces := #[]
  cf := none
  fields := #[]
  methods := #[]
  instanceTypes := #[]
  staticTypes := #[]
  resolved := #[]
  callSites := []
  init := .initialized
  statics := none
  mirror := none

def pool0 : Array CpInfo := pool [(5, u "<init>"), (0, u "()V"), (1, .class_ 10), (1, u "java/lang/Object"), (85, u "clone"), (0, u "()Ljava/lang/Object;")] 26

def k0c0 : Code := { maxStack := 0, maxLocals := 1, code := object_method_1_code, exceptionTable := #[], attributes := #[] }
def k0m0 : Method := { name := "<init>", desc := "()V", sig := { parameters := [], returnType := none }, accessFlags := 1, code := some k0c0 }
def k0m1 : Method := { name := "clone", desc := "()Ljava/lang/Object;", sig := { parameters := [], returnType := some (.object "java/lang/Object") }, accessFlags := 260, code := none }
/-- java/lang/Object -/
def k0 : Class := { plain "java/lang/Object" none with
  accessFlags := 33
  interfaces := #[]
  cf := some (fileOf pool0 8 #[] #[{ accessFlags := 1, nameIndex := 5, descriptorIndex := 6, attributes := #[] }, { accessFlags := 260, nameIndex := 96, descriptorIndex := 97, attributes := #[] }] 33 0 #[] #[])
  fields := #[]
  methods := #[k0m0, k0m1]
  instanceTypes := #[]
  staticTypes := #[]
  resolved := Array.replicate 124 none
  statics := none }

def pool1 : Array CpInfo := pool [(2, .class_ 4), (1, u "java/lang/Object"), (0, u "<init>"), (0, u "()V"), (0, .methodref 8 9), (0, .class_ 10), (0, .nameAndType 11 12), (0, u "com/example/larkbridge/larkbridge/mcp/McpResourceContentsBinaryPinLaw"), (0, u "str"), (0, u "(II)Ljava/lang/String;"), (0, .methodref 14 15), (0, .class_ 16), (0, .nameAndType 17 18), (0, u "com/example/larkbridge/larkbridge/mcp/McpResourceContents"), (0, u "binary"), (0, u "(Ljava/lang/String;Ljava/lang/String;[B)Lcom/example/larkbridge/larkbridge/mcp/McpResourceContents;"), (0, .methodref 14 20), (0, .nameAndType 21 22), (0, u "bytes"), (0, u "()[B"), (0, .methodref 8 24), (0, .nameAndType 25 26), (0, u "same"), (0, u "([BII)Z"), (0, .methodref 14 28), (0, .nameAndType 29 30), (0, u "uri"), (0, u "()Ljava/lang/String;"), (0, .methodref 32 33), (0, .class_ 34), (0, .nameAndType 35 36), (0, u "java/lang/String"), (0, u "equals"), (0, u "(Ljava/lang/Object;)Z"), (0, .methodref 14 38), (0, .nameAndType 39 30), (0, u "mimeType"), (0, .methodref 14 41), (0, .nameAndType 42 43), (0, u "isText"), (0, u "()Z"), (0, .methodref 14 45), (0, .nameAndType 46 30), (0, u "text"), (0, .methodref 32 48), (0, .nameAndType 5 49), (0, u "([C)V"), (2, u "law"), (0, u "(IIII)Z")] 5

def k1m0 : Method := { name := "<init>", desc := "()V", sig := { parameters := [], returnType := none }, accessFlags := 1, code := none }
def k1c1 : Code := { maxStack := 4, maxLocals := 20, code := code, exceptionTable := #[], attributes := #[] }
def k1m1 : Method := { name := "law", desc := "(IIII)Z", sig := { parameters := [.int, .int, .int, .int], returnType := some .boolean }, accessFlags := 9, code := some k1c1 }
def k1c2 : Code := { maxStack := 3, maxLocals := 3, code := method_3_code, exceptionTable := #[], attributes := #[] }
def k1m2 : Method := { name := "same", desc := "([BII)Z", sig := { parameters := [(.array .byte), .int, .int], returnType := some .boolean }, accessFlags := 10, code := some k1c2 }
def k1c3 : Code := { maxStack := 6, maxLocals := 5, code := method_4_code, exceptionTable := #[], attributes := #[] }
def k1m3 : Method := { name := "str", desc := "(II)Ljava/lang/String;", sig := { parameters := [.int, .int], returnType := some (.object "java/lang/String") }, accessFlags := 10, code := some k1c3 }
/-- com/example/larkbridge/larkbridge/mcp/McpResourceContentsBinaryPinLaw -/
def k1 : Class := { plain "com/example/larkbridge/larkbridge/mcp/McpResourceContentsBinaryPinLaw" (some 0) with
  accessFlags := 49
  interfaces := #[]
  cf := some (fileOf pool1 8 #[] #[{ accessFlags := 1, nameIndex := 5, descriptorIndex := 6, attributes := #[] }, { accessFlags := 9, nameIndex := 52, descriptorIndex := 53, attributes := #[] }, { accessFlags := 10, nameIndex := 25, descriptorIndex := 26, attributes := #[] }, { accessFlags := 10, nameIndex := 11, descriptorIndex := 12, attributes := #[] }] 49 2 #[] #[])
  fields := #[]
  methods := #[k1m0, k1m1, k1m2, k1m3]
  instanceTypes := #[]
  staticTypes := #[]
  resolved := Array.replicate 59 none
  statics := none }

def pool2 : Array CpInfo := pool [(1, .class_ 2), (0, u "java/io/Serializable"), (0, .class_ 4), (0, u "java/lang/Object")] 2

/-- java/io/Serializable -/
def k2 : Class := { plain "java/io/Serializable" (some 0) with
  accessFlags := 1537
  interfaces := #[]
  cf := some (fileOf pool2 1 #[] #[] 1537 3 #[] #[])
  fields := #[]
  methods := #[]
  instanceTypes := #[]
  staticTypes := #[]
  resolved := Array.replicate 7 none
  statics := none }

def pool3 : Array CpInfo := pool [(1, .class_ 2), (0, u "java/lang/Comparable"), (0, .class_ 4), (0, u "java/lang/Object")] 7

/-- java/lang/Comparable -/
def k3 : Class := { plain "java/lang/Comparable" (some 0) with
  accessFlags := 1537
  interfaces := #[]
  cf := some (fileOf pool3 1 #[] #[] 1537 3 #[] #[])
  fields := #[]
  methods := #[]
  instanceTypes := #[]
  staticTypes := #[]
  resolved := Array.replicate 12 none
  statics := none }

def pool4 : Array CpInfo := pool [(2, .class_ 4), (1, u "java/lang/CharSequence"), (42, .class_ 48), (0, u "java/lang/CharSequence$1CodePointIterator"), (10, .class_ 60), (0, u "java/lang/CharSequence$1CharIterator"), (5, .class_ 67), (0, u "java/lang/Object")] 63

/-- java/lang/CharSequence -/
def k4 : Class := { plain "java/lang/CharSequence" (some 0) with
  accessFlags := 1537
  interfaces := #[]
  cf := some (fileOf pool4 2 #[.nestMembers #[47, 59]] #[] 1537 66 #[] #[])
  fields := #[]
  methods := #[]
  instanceTypes := #[]
  staticTypes := #[]
  resolved := Array.replicate 131 none
  statics := none }

def pool5 : Array CpInfo := pool [(1, .class_ 2), (0, u "java/lang/constant/Constable"), (0, .class_ 4), (0, u "java/lang/Object")] 6

/-- java/lang/constant/Constable -/
def k5 : Class := { plain "java/lang/constant/Constable" (some 0) with
  accessFlags := 1537
  interfaces := #[]
  cf := some (fileOf pool5 1 #[] #[] 1537 3 #[] #[])
  fields := #[]
  methods := #[]
  instanceTypes := #[]
  staticTypes := #[]
  resolved := Array.replicate 11 none
  statics := none }

def pool6 : Array CpInfo := pool [(1, .class_ 2), (0, u "java/lang/constant/ConstantDesc"), (0, .class_ 4), (0, u "java/lang/Object")] 32

/-- java/lang/constant/ConstantDesc -/
def k6 : Class := { plain "java/lang/constant/ConstantDesc" (some 0) with
  accessFlags := 1537
  interfaces := #[]
  cf := some (fileOf pool6 1 #[] #[] 1537 3 #[] #[])
  fields := #[]
  methods := #[]
  instanceTypes := #[]
  staticTypes := #[]
  resolved := Array.replicate 37 none
  statics := none }

def pool7 : Array CpInfo := pool [(1, .methodref 2 3), (0, .class_ 4), (0, .nameAndType 5 6), (0, u "java/lang/Object"), (0, u "<init>"), (0, u "()V"), (0, .string 8), (0, u ""), (0, .fieldref 10 11), (0, .class_ 12), (0, .nameAndType 13 14), (0, u "java/lang/String"), (0, u "value"), (0, u "[B"), (0, .fieldref 10 16), (0, .nameAndType 17 18), (0, u "coder"), (0, u "B"), (2, u "hash"), (0, u "I"), (2, u "hashIsZero"), (0, u "Z"), (0, .methodref 10 28), (0, .nameAndType 5 29), (0, u "([CIILjava/lang/Void;)V"), (8, .fieldref 10 39), (0, .nameAndType 40 26), (0, u "COMPACT_STRINGS"), (1, .class_ 44), (1, u "java/lang/StringUTF16"), (0, u "compress"), (1, .methodref 42 48), (0, .nameAndType 49 50), (0, u "coderFromArrayLen"), (0, u "([BI)B"), (126, .methodref 42 178), (0, .nameAndType 45 179), (0, u "([CII)[B"), (363, u "equals"), (29, u "(Ljava/lang/Object;)Z"), (1, .class_ 576), (0, u "java/lang/CharSequence"), (22, u "CASE_INSENSITIVE_ORDER"), (0, u "Ljava/util/Comparator;"), (409, u "([C)V"), (90, u "serialPersistentFields"), (0, u "[Ljava/io/ObjectStreamField;"), (0, .class_ 1104), (0, u "java/lang/String$CaseInsensitiveComparator"), (1, .class_ 1107), (0, u "java/io/Serializable"), (0, .class_ 1109), (0, u "java/lang/Comparable"), (0, .class_ 1111), (0, u "java/lang/constant/Constable"), (0, .class_ 1113), (0, u "java/lang/constant/ConstantDesc"), (2, u "serialVersionUID"), (0, u "J"), (3, u "REPL"), (0, u "C"), (2, u "LATIN1"), (1, u "UTF16")] 323

def k7m0 : Method := { name := "<init>", desc := "()V", sig := { parameters := [], returnType := none }, accessFlags := 1, code := none }
def k7c1 : Code := { maxStack := 5, maxLocals := 2, code := jdk_42_method_3_code, exceptionTable := #[], attributes := #[] }
def k7m1 : Method := { name := "<init>", desc := "([C)V", sig := { parameters := [(.array .char)], returnType := none }, accessFlags := 1, code := some k7c1 }
def k7c2 : Code := { maxStack := 2, maxLocals := 3, code := jdk_42_method_66_code, exceptionTable := #[], attributes := #[] }
def k7m2 : Method := { name := "equals", desc := "(Ljava/lang/Object;)Z", sig := { parameters := [(.object "java/lang/Object")], returnType := some .boolean }, accessFlags := 1, code := some k7c2 }
def k7c3 : Code := { maxStack := 4, maxLocals := 6, code := jdk_42_method_149_code, exceptionTable := #[], attributes := #[] }
def k7m3 : Method := { name := "<init>", desc := "([CIILjava/lang/Void;)V", sig := { parameters := [(.array .char), .int, .int, (.object "java/lang/Void")], returnType := none }, accessFlags := 2, code := some k7c3 }
/-- java/lang/String -/
def k7 : Class := { plain "java/lang/String" (some 0) with
  accessFlags := 49
  interfaces := #[2, 3, 4, 5, 6]
  cf := some (fileOf pool7 10 #[.nestMembers #[1103]] #[{ accessFlags := 1, nameIndex := 5, descriptorIndex := 6, attributes := #[] }, { accessFlags := 1, nameIndex := 5, descriptorIndex := 1010, attributes := #[] }, { accessFlags := 1, nameIndex := 543, descriptorIndex := 573, attributes := #[] }, { accessFlags := 2, nameIndex := 5, descriptorIndex := 29, attributes := #[] }] 49 2 #[1106, 1108, 575, 1110, 1112] #[{ accessFlags := 18, nameIndex := 13, descriptorIndex := 14, attributes := #[] }, { accessFlags := 18, nameIndex := 17, descriptorIndex := 18, attributes := #[] }, { accessFlags := 2, nameIndex := 21, descriptorIndex := 22, attributes := #[] }, { accessFlags := 2, nameIndex := 25, descriptorIndex := 26, attributes := #[] }, { accessFlags := 26, nameIndex := 1116, descriptorIndex := 1117, attributes := #[] }, { accessFlags := 24, nameIndex := 40, descriptorIndex := 26, attributes := #[] }, { accessFlags := 26, nameIndex := 1101, descriptorIndex := 1102, attributes := #[] }, { accessFlags := 26, nameIndex := 1121, descriptorIndex := 1122, attributes := #[] }, { accessFlags := 25, nameIndex := 599, descriptorIndex := 600, attributes := #[] }, { accessFlags := 24, nameIndex := 1125, descriptorIndex := 18, attributes := #[] }, { accessFlags := 24, nameIndex := 1127, descriptorIndex := 18, attributes := #[] }])
  fields := #[{ name := "value", type := (.array .byte), accessFlags := 18, slot := 0, constantValue := 0 }, { name := "coder", type := .byte, accessFlags := 18, slot := 1, constantValue := 0 }, { name := "hash", type := .int, accessFlags := 2, slot := 2, constantValue := 0 }, { name := "hashIsZero", type := .boolean, accessFlags := 2, slot := 3, constantValue := 0 }, { name := "serialVersionUID", type := .long, accessFlags := 26, slot := 0, constantValue := 0 }, { name := "COMPACT_STRINGS", type := .boolean, accessFlags := 24, slot := 1, constantValue := 0 }, { name := "serialPersistentFields", type := (.array (.object "java/io/ObjectStreamField")), accessFlags := 26, slot := 2, constantValue := 0 }, { name := "REPL", type := .char, accessFlags := 26, slot := 3, constantValue := 0 }, { name := "CASE_INSENSITIVE_ORDER", type := (.object "java/util/Comparator"), accessFlags := 25, slot := 4, constantValue := 0 }, { name := "LATIN1", type := .byte, accessFlags := 24, slot := 5, constantValue := 0 }, { name := "UTF16", type := .byte, accessFlags := 24, slot := 6, constantValue := 0 }]
  methods := #[k7m0, k7m1, k7m2, k7m3]
  instanceTypes := #[(.array .byte), .byte, .int, .boolean]
  staticTypes := #[.long, .boolean, (.array (.object "java/io/ObjectStreamField")), .char, (.object "java/util/Comparator"), .byte, .byte]
  resolved := Array.replicate 1451 none
  statics := some 0 }

def pool8 : Array CpInfo := pool [(6, .class_ 8), (1, u "java/lang/Object"), (0, u "<init>"), (0, u "()V"), (1, .class_ 14), (1, u "java/lang/StringUTF16"), (31, u "$assertionsDisabled"), (0, u "Z"), (13, u "HI_BYTE_SHIFT"), (0, u "I"), (2, u "LO_BYTE_SHIFT"), (49, .methodref 12 116), (0, .nameAndType 117 118), (0, u "compress"), (0, u "([CI[BII)I"), (3, u "([CII)[B"), (138, u "coderFromArrayLen"), (0, u "([BI)B"), (106, .class_ 371), (1, u "java/lang/StringUTF16$LinesSpliterator"), (58, u "MAX_LENGTH"), (196, .class_ 628), (0, u "java/lang/StringUTF16$CodePointsSpliterator"), (0, .class_ 630), (0, u "java/lang/StringUTF16$CharsSpliterator")] 4

def k8m0 : Method := { name := "<init>", desc := "()V", sig := { parameters := [], returnType := none }, accessFlags := 0, code := none }
def k8c1 : Code := { maxStack := 2, maxLocals := 2, code := jdk_52_method_15_code, exceptionTable := #[], attributes := #[] }
def k8m1 : Method := { name := "coderFromArrayLen", desc := "([BI)B", sig := { parameters := [(.array .byte), .int], returnType := some .byte }, accessFlags := 8, code := some k8c1 }
def k8c2 : Code := { maxStack := 5, maxLocals := 6, code := jdk_52_method_16_code, exceptionTable := #[], attributes := #[] }
def k8m2 : Method := { name := "compress", desc := "([CII)[B", sig := { parameters := [(.array .char), .int, .int], returnType := some (.array .byte) }, accessFlags := 9, code := some k8c2 }
def k8c3 : Code := { maxStack := 3, maxLocals := 7, code := jdk_52_method_21_code, exceptionTable := #[], attributes := #[] }
def k8m3 : Method := { name := "compress", desc := "([CI[BII)I", sig := { parameters := [(.array .char), .int, (.array .byte), .int, .int], returnType := some .int }, accessFlags := 9, code := some k8c3 }
/-- java/lang/StringUTF16 -/
def k8 : Class := { plain "java/lang/StringUTF16" (some 0) with
  accessFlags := 48
  interfaces := #[]
  cf := some (fileOf pool8 12 #[.nestMembers #[627, 629, 369]] #[{ accessFlags := 0, nameIndex := 9, descriptorIndex := 10, attributes := #[] }, { accessFlags := 8, nameIndex := 261, descriptorIndex := 262, attributes := #[] }, { accessFlags := 9, nameIndex := 117, descriptorIndex := 122, attributes := #[] }, { accessFlags := 9, nameIndex := 117, descriptorIndex := 118, attributes := #[] }] 48 6 #[] #[{ accessFlags := 26, nameIndex := 61, descriptorIndex := 62, attributes := #[] }, { accessFlags := 26, nameIndex := 65, descriptorIndex := 62, attributes := #[] }, { accessFlags := 24, nameIndex := 430, descriptorIndex := 62, attributes := #[] }, { accessFlags := 4120, nameIndex := 46, descriptorIndex := 47, attributes := #[] }])
  fields := #[{ name := "HI_BYTE_SHIFT", type := .int, accessFlags := 26, slot := 0, constantValue := 0 }, { name := "LO_BYTE_SHIFT", type := .int, accessFlags := 26, slot := 1, constantValue := 0 }, { name := "MAX_LENGTH", type := .int, accessFlags := 24, slot := 2, constantValue := 0 }, { name := "$assertionsDisabled", type := .boolean, accessFlags := 4120, slot := 3, constantValue := 0 }]
  methods := #[k8m0, k8m1, k8m2, k8m3]
  instanceTypes := #[]
  staticTypes := #[.int, .int, .int, .boolean]
  resolved := Array.replicate 635 none
  statics := none }

def pool9 : Array CpInfo := pool [(1, .methodref 2 3), (0, .class_ 4), (0, .nameAndType 5 6), (0, u "java/lang/Object"), (0, u "<init>"), (0, u "()V"), (0, .string 8), (0, u "uri"), (0, .methodref 10 11), (0, .class_ 12), (0, .nameAndType 13 14), (0, u "java/util/Objects"), (0, u "requireNonNull"), (0, u "(Ljava/lang/Object;Ljava/lang/String;)Ljava/lang/Object;"), (0, .class_ 16), (0, u "java/lang/String"), (0, .fieldref 18 19), (0, .class_ 20), (0, .nameAndType 8 21), (0, u "com/example/larkbridge/larkbridge/mcp/McpResourceContents"), (0, u "Ljava/lang/String;"), (0, .fieldref 18 23), (0, .nameAndType 24 21), (0, u "mimeType"), (0, .fieldref 18 26), (0, .nameAndType 27 21), (0, u "text"), (0, .fieldref 18 29), (0, .nameAndType 30 31), (0, u "bytes"), (0, u "[B"), (1, .methodref 18 34), (0, .nameAndType 5 35), (0, u "(Ljava/lang/String;Ljava/lang/String;Ljava/lang/String;[B)V"), (0, .methodref 37 38), (0, .class_ 31), (0, .nameAndType 39 40), (0, u "clone"), (0, u "()Ljava/lang/Object;"), (2, u "isText"), (0, u "()Z"), (15, u "binary"), (0, u "(Ljava/lang/String;Ljava/lang/String;[B)Lcom/example/larkbridge/larkbridge/mcp/McpResourceContents;"), (0, u "()Ljava/lang/String;"), (1, u "()[B")] 22

def k9c0 : Code := { maxStack := 3, maxLocals := 5, code := prog_44_method_1_code, exceptionTable := #[], attributes := #[] }
def k9m0 : Method := { name := "<init>", desc := "(Ljava/lang/String;Ljava/lang/String;Ljava/lang/String;[B)V", sig := { parameters := [(.object "java/lang/String"), (.object "java/lang/String"), (.object "java/lang/String"), (.array .byte)], returnType := none }, accessFlags := 2, code := some k9c0 }
def k9c1 : Code := { maxStack := 6, maxLocals := 3, code := prog_44_method_3_code, exceptionTable := #[], attributes := #[] }
def k9m1 : Method := { name := "binary", desc := "(Ljava/lang/String;Ljava/lang/String;[B)Lcom/example/larkbridge/larkbridge/mcp/McpResourceContents;", sig := { parameters := [(.object "java/lang/String"), (.object "java/lang/String"), (.array .byte)], returnType := some (.object "com/example/larkbridge/larkbridge/mcp/McpResourceContents") }, accessFlags := 9, code := some k9c1 }
def k9c2 : Code := { maxStack := 1, maxLocals := 1, code := prog_44_method_4_code, exceptionTable := #[], attributes := #[] }
def k9m2 : Method := { name := "uri", desc := "()Ljava/lang/String;", sig := { parameters := [], returnType := some (.object "java/lang/String") }, accessFlags := 1, code := some k9c2 }
def k9c3 : Code := { maxStack := 1, maxLocals := 1, code := prog_44_method_5_code, exceptionTable := #[], attributes := #[] }
def k9m3 : Method := { name := "mimeType", desc := "()Ljava/lang/String;", sig := { parameters := [], returnType := some (.object "java/lang/String") }, accessFlags := 1, code := some k9c3 }
def k9c4 : Code := { maxStack := 1, maxLocals := 1, code := prog_44_method_6_code, exceptionTable := #[], attributes := #[] }
def k9m4 : Method := { name := "isText", desc := "()Z", sig := { parameters := [], returnType := some .boolean }, accessFlags := 1, code := some k9c4 }
def k9c5 : Code := { maxStack := 1, maxLocals := 1, code := prog_44_method_7_code, exceptionTable := #[], attributes := #[] }
def k9m5 : Method := { name := "text", desc := "()Ljava/lang/String;", sig := { parameters := [], returnType := some (.object "java/lang/String") }, accessFlags := 1, code := some k9c5 }
def k9c6 : Code := { maxStack := 1, maxLocals := 1, code := prog_44_method_8_code, exceptionTable := #[], attributes := #[] }
def k9m6 : Method := { name := "bytes", desc := "()[B", sig := { parameters := [], returnType := some (.array .byte) }, accessFlags := 1, code := some k9c6 }
/-- com/example/larkbridge/larkbridge/mcp/McpResourceContents -/
def k9 : Class := { plain "com/example/larkbridge/larkbridge/mcp/McpResourceContents" (some 0) with
  accessFlags := 49
  interfaces := #[]
  cf := some (fileOf pool9 18 #[] #[{ accessFlags := 2, nameIndex := 5, descriptorIndex := 35, attributes := #[] }, { accessFlags := 9, nameIndex := 60, descriptorIndex := 61, attributes := #[] }, { accessFlags := 1, nameIndex := 8, descriptorIndex := 62, attributes := #[] }, { accessFlags := 1, nameIndex := 24, descriptorIndex := 62, attributes := #[] }, { accessFlags := 1, nameIndex := 43, descriptorIndex := 44, attributes := #[] }, { accessFlags := 1, nameIndex := 27, descriptorIndex := 62, attributes := #[] }, { accessFlags := 1, nameIndex := 30, descriptorIndex := 64, attributes := #[] }] 49 2 #[] #[{ accessFlags := 18, nameIndex := 8, descriptorIndex := 21, attributes := #[] }, { accessFlags := 18, nameIndex := 24, descriptorIndex := 21, attributes := #[] }, { accessFlags := 18, nameIndex := 27, descriptorIndex := 21, attributes := #[] }, { accessFlags := 18, nameIndex := 30, descriptorIndex := 31, attributes := #[] }])
  fields := #[{ name := "uri", type := (.object "java/lang/String"), accessFlags := 18, slot := 0, constantValue := 0 }, { name := "mimeType", type := (.object "java/lang/String"), accessFlags := 18, slot := 1, constantValue := 0 }, { name := "text", type := (.object "java/lang/String"), accessFlags := 18, slot := 2, constantValue := 0 }, { name := "bytes", type := (.array .byte), accessFlags := 18, slot := 3, constantValue := 0 }]
  methods := #[k9m0, k9m1, k9m2, k9m3, k9m4, k9m5, k9m6]
  instanceTypes := #[(.object "java/lang/String"), (.object "java/lang/String"), (.object "java/lang/String"), (.array .byte)]
  staticTypes := #[]
  resolved := Array.replicate 87 none
  statics := none }

def pool10 : Array CpInfo := pool [(1, .class_ 2), (0, u "java/lang/Cloneable"), (0, .class_ 4), (0, u "java/lang/Object")] 2

/-- java/lang/Cloneable -/
def k10 : Class := { plain "java/lang/Cloneable" (some 0) with
  accessFlags := 1537
  interfaces := #[]
  cf := some (fileOf pool10 1 #[] #[] 1537 3 #[] #[])
  fields := #[]
  methods := #[]
  instanceTypes := #[]
  staticTypes := #[]
  resolved := Array.replicate 7 none
  statics := none }

def pool11 : Array CpInfo := pool [(2, .class_ 4), (1, u "java/lang/Object"), (0, u "<init>"), (0, u "()V"), (35, .class_ 44), (1, u "java/util/Objects"), (0, u "requireNonNull"), (48, u "(Ljava/lang/Object;Ljava/lang/String;)Ljava/lang/Object;")] 89

def k11m0 : Method := { name := "<init>", desc := "()V", sig := { parameters := [], returnType := none }, accessFlags := 2, code := none }
def k11c1 : Code := { maxStack := 3, maxLocals := 2, code := jdk_31_method_11_code, exceptionTable := #[], attributes := #[] }
def k11m1 : Method := { name := "requireNonNull", desc := "(Ljava/lang/Object;Ljava/lang/String;)Ljava/lang/Object;", sig := { parameters := [(.object "java/lang/Object"), (.object "java/lang/String")], returnType := some (.object "java/lang/Object") }, accessFlags := 9, code := some k11c1 }
/-- java/util/Objects -/
def k11 : Class := { plain "java/util/Objects" (some 0) with
  accessFlags := 49
  interfaces := #[]
  cf := some (fileOf pool11 42 #[] #[{ accessFlags := 2, nameIndex := 5, descriptorIndex := 6, attributes := #[] }, { accessFlags := 9, nameIndex := 45, descriptorIndex := 94, attributes := #[] }] 49 2 #[] #[])
  fields := #[]
  methods := #[k11m0, k11m1]
  instanceTypes := #[]
  staticTypes := #[]
  resolved := Array.replicate 184 none
  statics := none }

def pool12 : Array CpInfo := pool [(4, .class_ 6), (1, u "java/lang/Object"), (0, u "<init>"), (0, u "()V"), (5, .class_ 16), (1, u "java/lang/StringLatin1"), (104, u "$assertionsDisabled"), (0, u "Z"), (98, .class_ 223), (1, u "java/lang/StringLatin1$LinesSpliterator"), (166, .class_ 391), (0, u "java/lang/StringLatin1$CharsSpliterator")] 3

def k12m0 : Method := { name := "<init>", desc := "()V", sig := { parameters := [], returnType := none }, accessFlags := 0, code := none }
/-- java/lang/StringLatin1 -/
def k12 : Class := { plain "java/lang/StringLatin1" (some 0) with
  accessFlags := 48
  interfaces := #[]
  cf := some (fileOf pool12 14 #[.nestMembers #[390, 221]] #[{ accessFlags := 0, nameIndex := 7, descriptorIndex := 8, attributes := #[] }] 48 4 #[] #[{ accessFlags := 4120, nameIndex := 121, descriptorIndex := 122, attributes := #[] }])
  fields := #[{ name := "$assertionsDisabled", type := .boolean, accessFlags := 4120, slot := 0, constantValue := 0 }]
  methods := #[k12m0]
  instanceTypes := #[]
  staticTypes := #[.boolean]
  resolved := Array.replicate 395 none
  statics := none }

def pool13 : Array CpInfo := pool [(2, .class_ 4), (1, u "java/lang/Object"), (0, u "<init>"), (0, u "()V"), (17, .class_ 26), (1, u "jdk/internal/util/Preconditions"), (28, .class_ 56), (0, u "jdk/internal/util/Preconditions$4"), (57, .class_ 115), (0, u "jdk/internal/util/Preconditions$1"), (7, u "SIOOBE_FORMATTER"), (0, u "Ljava/util/function/BiFunction;"), (0, .class_ 126), (0, u "jdk/internal/util/Preconditions$2"), (3, u "AIOOBE_FORMATTER"), (0, .class_ 132), (0, u "jdk/internal/util/Preconditions$3"), (3, u "IOOBE_FORMATTER")] 57

def k13m0 : Method := { name := "<init>", desc := "()V", sig := { parameters := [], returnType := none }, accessFlags := 1, code := none }
/-- jdk/internal/util/Preconditions -/
def k13 : Class := { plain "jdk/internal/util/Preconditions" (some 0) with
  accessFlags := 33
  interfaces := #[]
  cf := some (fileOf pool13 24 #[.nestMembers #[55, 131, 125, 114]] #[{ accessFlags := 1, nameIndex := 5, descriptorIndex := 6, attributes := #[] }] 33 2 #[] #[{ accessFlags := 25, nameIndex := 123, descriptorIndex := 124, attributes := #[] }, { accessFlags := 25, nameIndex := 130, descriptorIndex := 124, attributes := #[] }, { accessFlags := 25, nameIndex := 136, descriptorIndex := 124, attributes := #[] }])
  fields := #[{ name := "SIOOBE_FORMATTER", type := (.object "java/util/function/BiFunction"), accessFlags := 25, slot := 0, constantValue := 0 }, { name := "AIOOBE_FORMATTER", type := (.object "java/util/function/BiFunction"), accessFlags := 25, slot := 1, constantValue := 0 }, { name := "IOOBE_FORMATTER", type := (.object "java/util/function/BiFunction"), accessFlags := 25, slot := 2, constantValue := 0 }]
  methods := #[k13m0]
  instanceTypes := #[]
  staticTypes := #[(.object "java/util/function/BiFunction"), (.object "java/util/function/BiFunction"), (.object "java/util/function/BiFunction")]
  resolved := Array.replicate 194 none
  statics := some 1 }

def pool14 : Array CpInfo := pool [(9, u "<init>"), (6, .class_ 18), (1, u "java/lang/Object"), (0, u "()V"), (1, .class_ 23), (1, u "jdk/internal/util/ArraysSupport"), (0, u "LOG2_ARRAY_LONG_INDEX_SCALE"), (0, u "I"), (2, u "U"), (0, u "Ljdk/internal/misc/Unsafe;"), (8, u "BIG_ENDIAN"), (0, u "Z"), (8, u "LOG2_BYTE_BIT_SIZE"), (4, u "LOG2_ARRAY_INT_INDEX_SCALE"), (54, u "JLA"), (0, u "Ljdk/internal/access/JavaLangAccess;"), (11, u "LOG2_ARRAY_BOOLEAN_INDEX_SCALE"), (9, u "LOG2_ARRAY_BYTE_INDEX_SCALE"), (5, u "LOG2_ARRAY_CHAR_INDEX_SCALE"), (5, u "LOG2_ARRAY_SHORT_INDEX_SCALE"), (18, u "LOG2_ARRAY_FLOAT_INDEX_SCALE"), (24, u "LOG2_ARRAY_DOUBLE_INDEX_SCALE"), (89, u "T_BOOLEAN"), (2, u "T_CHAR"), (1, u "T_FLOAT"), (1, u "T_DOUBLE"), (1, u "T_BYTE"), (1, u "T_SHORT"), (1, u "T_INT"), (1, u "T_LONG"), (1, u "SOFT_MAX_ARRAY_LENGTH")] 83

def k14m0 : Method := { name := "<init>", desc := "()V", sig := { parameters := [], returnType := none }, accessFlags := 2, code := none }
/-- jdk/internal/util/ArraysSupport -/
def k14 : Class := { plain "jdk/internal/util/ArraysSupport" (some 0) with
  accessFlags := 33
  interfaces := #[]
  cf := some (fileOf pool14 21 #[] #[{ accessFlags := 2, nameIndex := 9, descriptorIndex := 19, attributes := #[] }] 33 16 #[] #[{ accessFlags := 24, nameIndex := 28, descriptorIndex := 29, attributes := #[] }, { accessFlags := 26, nameIndex := 38, descriptorIndex := 39, attributes := #[] }, { accessFlags := 25, nameIndex := 121, descriptorIndex := 25, attributes := #[] }, { accessFlags := 25, nameIndex := 131, descriptorIndex := 25, attributes := #[] }, { accessFlags := 25, nameIndex := 137, descriptorIndex := 25, attributes := #[] }, { accessFlags := 25, nameIndex := 143, descriptorIndex := 25, attributes := #[] }, { accessFlags := 25, nameIndex := 53, descriptorIndex := 25, attributes := #[] }, { accessFlags := 25, nameIndex := 24, descriptorIndex := 25, attributes := #[] }, { accessFlags := 25, nameIndex := 162, descriptorIndex := 25, attributes := #[] }, { accessFlags := 25, nameIndex := 187, descriptorIndex := 25, attributes := #[] }, { accessFlags := 26, nameIndex := 48, descriptorIndex := 25, attributes := #[] }, { accessFlags := 25, nameIndex := 277, descriptorIndex := 25, attributes := #[] }, { accessFlags := 25, nameIndex := 280, descriptorIndex := 25, attributes := #[] }, { accessFlags := 25, nameIndex := 282, descriptorIndex := 25, attributes := #[] }, { accessFlags := 25, nameIndex := 284, descriptorIndex := 25, attributes := #[] }, { accessFlags := 25, nameIndex := 286, descriptorIndex := 25, attributes := #[] }, { accessFlags := 25, nameIndex := 288, descriptorIndex := 25, attributes := #[] }, { accessFlags := 25, nameIndex := 290, descriptorIndex := 25, attributes := #[] }, { accessFlags := 25, nameIndex := 292, descriptorIndex := 25, attributes := #[] }, { accessFlags := 26, nameIndex := 108, descriptorIndex := 109, attributes := #[] }, { accessFlags := 25, nameIndex := 294, descriptorIndex := 25, attributes := #[] }])
  fields := #[{ name := "U", type := (.object "jdk/internal/misc/Unsafe"), accessFlags := 24, slot := 0, constantValue := 0 }, { name := "BIG_ENDIAN", type := .boolean, accessFlags := 26, slot := 1, constantValue := 0 }, { name := "LOG2_ARRAY_BOOLEAN_INDEX_SCALE", type := .int, accessFlags := 25, slot := 2, constantValue := 0 }, { name := "LOG2_ARRAY_BYTE_INDEX_SCALE", type := .int, accessFlags := 25, slot := 3, constantValue := 0 }, { name := "LOG2_ARRAY_CHAR_INDEX_SCALE", type := .int, accessFlags := 25, slot := 4, constantValue := 0 }, { name := "LOG2_ARRAY_SHORT_INDEX_SCALE", type := .int, accessFlags := 25, slot := 5, constantValue := 0 }, { name := "LOG2_ARRAY_INT_INDEX_SCALE", type := .int, accessFlags := 25, slot := 6, constantValue := 0 }, { name := "LOG2_ARRAY_LONG_INDEX_SCALE", type := .int, accessFlags := 25, slot := 7, constantValue := 0 }, { name := "LOG2_ARRAY_FLOAT_INDEX_SCALE", type := .int, accessFlags := 25, slot := 8, constantValue := 0 }, { name := "LOG2_ARRAY_DOUBLE_INDEX_SCALE", type := .int, accessFlags := 25, slot := 9, constantValue := 0 }, { name := "LOG2_BYTE_BIT_SIZE", type := .int, accessFlags := 26, slot := 10, constantValue := 0 }, { name := "T_BOOLEAN", type := .int, accessFlags := 25, slot := 11, constantValue := 0 }, { name := "T_CHAR", type := .int, accessFlags := 25, slot := 12, constantValue := 0 }, { name := "T_FLOAT", type := .int, accessFlags := 25, slot := 13, constantValue := 0 }, { name := "T_DOUBLE", type := .int, accessFlags := 25, slot := 14, constantValue := 0 }, { name := "T_BYTE", type := .int, accessFlags := 25, slot := 15, constantValue := 0 }, { name := "T_SHORT", type := .int, accessFlags := 25, slot := 16, constantValue := 0 }, { name := "T_INT", type := .int, accessFlags := 25, slot := 17, constantValue := 0 }, { name := "T_LONG", type := .int, accessFlags := 25, slot := 18, constantValue := 0 }, { name := "JLA", type := (.object "jdk/internal/access/JavaLangAccess"), accessFlags := 26, slot := 19, constantValue := 0 }, { name := "SOFT_MAX_ARRAY_LENGTH", type := .int, accessFlags := 25, slot := 20, constantValue := 0 }]
  methods := #[k14m0]
  instanceTypes := #[]
  staticTypes := #[(.object "jdk/internal/misc/Unsafe"), .boolean, .int, .int, .int, .int, .int, .int, .int, .int, .int, .int, .int, .int, .int, .int, .int, .int, .int, (.object "jdk/internal/access/JavaLangAccess"), .int]
  resolved := Array.replicate 378 none
  statics := none }

/-- the primitive byte -/
def k15 : Class := { plain "byte" none with kind := .primitive 'B', accessFlags := 0x411 }
/-- [B -/
def k16 : Class := { plain "[B" (some 0) with kind := .array 15 .byte, interfaces := #[10, 2], accessFlags := 1041 }

/-- the primitive char -/
def k17 : Class := { plain "char" none with kind := .primitive 'C', accessFlags := 0x411 }
/-- [C -/
def k18 : Class := { plain "[C" (some 0) with kind := .array 17 .char, interfaces := #[10, 2], accessFlags := 1041 }

/-- the primitive int -/
def k19 : Class := { plain "int" none with kind := .primitive 'I', accessFlags := 0x411 }
/-- [I -/
def k20 : Class := { plain "[I" (some 0) with kind := .array 19 .int, interfaces := #[10, 2], accessFlags := 1041 }

def heap : Heap := #[{ cls := 7, slots := #[.long 0, .int 1, .null, .int 0, .null, .int 0, .int 0], vm := .statics 7 },
  { cls := 13, slots := #[.null, .null, .null], vm := .statics 13 }]
def classes : Array Class := #[k0, k1, k2, k3, k4, k5, k6, k7, k8, k9, k10, k11, k12, k13, k14, k15, k16, k17, k18, k19, k20]
def interned : List (Array UInt16 × Addr) := []
def slotsUsed : Nat := 10
def theMethod : MethodId := ⟨1, 1⟩
def args0 : Array Value := #[.int 65, .int 70, .int 71, .int 100]
def aboutOver (below : List Frame) : State where
  vm := { classes := classes, interned := interned.toArray }
  heap := heap
  slotsUsed := slotsUsed
  threads := #[{ frames := .invoking theMethod args0 :: below }]
def below0 : List Frame := [.native { method := ⟨0, 0⟩, args := #[] }]
def about1 : State := aboutOver below0
def p0 : Program := .bare "" "" ""
def e0 : Env := launch0.env 0 0 0
theorem w_frames : about1.frames = Frame.invoking theMethod args0 :: below0 := rfl
set_option maxRecDepth 65536 in
theorem w_args : argsFit about1.vm theMethod args0 = true := by decide +kernel
set_option maxRecDepth 65536 in
theorem w_heap : heapFits about1 = true := by decide +kernel
set_option maxRecDepth 65536 in
theorem w_runnable : about1.curStatus? = some .runnable := by decide +kernel
set_option maxRecDepth 65536 in
theorem w_alone : about1.alone = true := by decide +kernel
set_option maxRecDepth 65536 in
theorem w_named : about1.methodNamed? x = some theMethod := by decide +kernel
set_option maxRecDepth 65536 in
theorem w_hears : about1.hears theMethod below0 = true := by decide +kernel
set_option maxRecDepth 65536 in
theorem w_ripe : about1.ripe theMethod args0 below0 = true := by decide +kernel
theorem w_running : about1.status = .running := rfl
set_option maxRecDepth 65536 in
theorem w_room : about1.hasRoom e0.platform room_1 = true :=
  launch0.hasRoom_least _ room_1 (by decide +kernel) (by decide +kernel) (by decide +kernel) (by decide +kernel) (by decide +kernel) (by decide +kernel)
theorem allAtoms_all (ts : List Jvm.Cond) (a : Array Jvm.Value) (st : Jvm.State) : (allAtoms ts).before a st = ts.all (fun c => c.before a st) := by
  induction ts with
  | nil => rfl
  | cons c t ih =>
    show (Jvm.Cond.and c (allAtoms t)).before a st = _
    rw [Jvm.Cond.before_and, ih, List.all_cons]
def words1 : List Jvm.Cond := Jvm.Cond.code x code maxLocals ret :: tables_1
/-- a 'code' word, met by the world's own term for the bytes: nothing is compared byte by byte -/
theorem code_word {y : MethodName} {bytes : ByteArray} {mx : Nat} {rt : Option FieldType} {a : Array Value} {s : State} {m : MethodId} {meth : Method} {c : Code} (h1 : s.methodNamed? y = some m) (h2 : s.vm.method? m = some meth) (h3 : meth.code = some c) (h4 : c.code = bytes)
    (h5 : (c.maxLocals == mx && c.exceptionTable.isEmpty && decide (c.maxStack ≤ mostOperands) && decide (meth.sig.returnType = rt) && !meth.locks && decide (parseMethodDescriptor y.desc = some meth.sig)) = true) : (Jvm.Cond.code y bytes mx rt).before a s = true := by
  simp only [Bool.and_eq_true, beq_iff_eq, Bool.not_eq_true', decide_eq_true_eq] at h5
  obtain ⟨⟨⟨⟨⟨g1, g2⟩, g3⟩, g4⟩, g5⟩, g6⟩ := h5
  simp [Cond.before, Cond.holds, Cond.value, h1, h2, h3, h4, g1, g2, g3, g4, g5, g6]
def isCode : Jvm.Cond → Bool
  | .code _ _ _ _ => true
  | _ => false
theorem all_split {L : List Jvm.Cond} {P : Jvm.Cond → Bool} (h1 : L.all (fun c => isCode c || P c) = true) (h2 : ∀ c ∈ L.filter isCode, P c = true) : L.all P = true := by
  refine List.all_eq_true.mpr fun c hc => ?_
  have h := List.all_eq_true.mp h1 c hc
  rcases Bool.eq_false_or_eq_true (isCode c) with hi | hi
  · exact h2 c (List.mem_filter.mpr ⟨hc, hi⟩)
  · simpa [hi] using h
set_option maxRecDepth 65536 in
theorem w_c0 : (Jvm.Cond.code x code maxLocals ret).before args0 about1 = true := code_word (m := ⟨1, 1⟩) (meth := k1m1) (c := k1c1) (by decide +kernel) rfl rfl rfl (by decide +kernel)
set_option maxRecDepth 65536 in
theorem w_c1 : (Jvm.Cond.code ({ cls := "com/example/larkbridge/larkbridge/mcp/McpResourceContentsBinaryPinLaw", name := "str", desc := "(II)Ljava/lang/String;" } : Jvm.MethodName) method_4_code (5 : Nat) (Option.some (Jvm.ClassFile.FieldType.object "java/lang/String"))).before args0 about1 = true := code_word (m := ⟨1, 3⟩) (meth := k1m3) (c := k1c3) (by decide +kernel) rfl rfl rfl (by decide +kernel)
set_option maxRecDepth 65536 in
theorem w_c2 : (Jvm.Cond.code ({ cls := "java/lang/String", name := "<init>", desc := "([C)V" } : Jvm.MethodName) jdk_42_method_3_code (2 : Nat) (Option.none : Option Jvm.ClassFile.FieldType)).before args0 about1 = true := code_word (m := ⟨7, 1⟩) (meth := k7m1) (c := k7c1) (by decide +kernel) rfl rfl rfl (by decide +kernel)
set_option maxRecDepth 65536 in
theorem w_c3 : (Jvm.Cond.code ({ cls := "java/lang/String", name := "<init>", desc := "([CIILjava/lang/Void;)V" } : Jvm.MethodName) jdk_42_method_149_code (6 : Nat) (Option.none : Option Jvm.ClassFile.FieldType)).before args0 about1 = true := code_word (m := ⟨7, 3⟩) (meth := k7m3) (c := k7c3) (by decide +kernel) rfl rfl rfl (by decide +kernel)
set_option maxRecDepth 65536 in
theorem w_c4 : (Jvm.Cond.code ({ cls := "java/lang/Object", name := "<init>", desc := "()V" } : Jvm.MethodName) object_method_1_code (1 : Nat) (Option.none : Option Jvm.ClassFile.FieldType)).before args0 about1 = true := code_word (m := ⟨0, 0⟩) (meth := k0m0) (c := k0c0) (by decide +kernel) rfl rfl rfl (by decide +kernel)
set_option maxRecDepth 65536 in
theorem w_c5 : (Jvm.Cond.code ({ cls := "java/lang/StringUTF16", name := "compress", desc := "([CII)[B" } : Jvm.MethodName) jdk_52_method_16_code (6 : Nat) (Option.some (Jvm.ClassFile.FieldType.array Jvm.ClassFile.FieldType.byte))).before args0 about1 = true := code_word (m := ⟨8, 2⟩) (meth := k8m2) (c := k8c2) (by decide +kernel) rfl rfl rfl (by decide +kernel)
set_option maxRecDepth 65536 in
theorem w_c6 : (Jvm.Cond.code ({ cls := "java/lang/StringUTF16", name := "compress", desc := "([CI[BII)I" } : Jvm.MethodName) jdk_52_method_21_code (7 : Nat) (Option.some Jvm.ClassFile.FieldType.int)).before args0 about1 = true := code_word (m := ⟨8, 3⟩) (meth := k8m3) (c := k8c3) (by decide +kernel) rfl rfl rfl (by decide +kernel)
set_option maxRecDepth 65536 in
theorem w_c7 : (Jvm.Cond.code ({ cls := "java/lang/StringUTF16", name := "coderFromArrayLen", desc := "([BI)B" } : Jvm.MethodName) jdk_52_method_15_code (2 : Nat) (Option.some Jvm.ClassFile.FieldType.byte)).before args0 about1 = true := code_word (m := ⟨8, 1⟩) (meth := k8m1) (c := k8c1) (by decide +kernel) rfl rfl rfl (by decide +kernel)
set_option maxRecDepth 65536 in
theorem w_c8 : (Jvm.Cond.code ({ cls := "com/example/larkbridge/larkbridge/mcp/McpResourceContents", name := "binary", desc := "(Ljava/lang/String;Ljava/lang/String;[B)Lcom/example/larkbridge/larkbridge/mcp/McpResourceContents;" } : Jvm.MethodName) prog_44_method_3_code (3 : Nat) (Option.some (Jvm.ClassFile.FieldType.object "com/example/larkbridge/larkbridge/mcp/McpResourceContents"))).before args0 about1 = true := code_word (m := ⟨9, 1⟩) (meth := k9m1) (c := k9c1) (by decide +kernel) rfl rfl rfl (by decide +kernel)
set_option maxRecDepth 65536 in
theorem w_c9 : (Jvm.Cond.code ({ cls := "com/example/larkbridge/larkbridge/mcp/McpResourceContents", name := "<init>", desc := "(Ljava/lang/String;Ljava/lang/String;Ljava/lang/String;[B)V" } : Jvm.MethodName) prog_44_method_1_code (5 : Nat) (Option.none : Option Jvm.ClassFile.FieldType)).before args0 about1 = true := code_word (m := ⟨9, 0⟩) (meth := k9m0) (c := k9c0) (by decide +kernel) rfl rfl rfl (by decide +kernel)
set_option maxRecDepth 65536 in
theorem w_c10 : (Jvm.Cond.code ({ cls := "java/util/Objects", name := "requireNonNull", desc := "(Ljava/lang/Object;Ljava/lang/String;)Ljava/lang/Object;" } : Jvm.MethodName) jdk_31_method_11_code (2 : Nat) (Option.some (Jvm.ClassFile.FieldType.object "java/lang/Object"))).before args0 about1 = true := code_word (m := ⟨11, 1⟩) (meth := k11m1) (c := k11c1) (by decide +kernel) rfl rfl rfl (by decide +kernel)
set_option maxRecDepth 65536 in
theorem w_c11 : (Jvm.Cond.code ({ cls := "com/example/larkbridge/larkbridge/mcp/McpResourceContents", name := "bytes", desc := "()[B" } : Jvm.MethodName) prog_44_method_8_code (1 : Nat) (Option.some (Jvm.ClassFile.FieldType.array Jvm.ClassFile.FieldType.byte))).before args0 about1 = true := code_word (m := ⟨9, 6⟩) (meth := k9m6) (c := k9c6) (by decide +kernel) rfl rfl rfl (by decide +kernel)
set_option maxRecDepth 65536 in
theorem w_c12 : (Jvm.Cond.code ({ cls := "com/example/larkbridge/larkbridge/mcp/McpResourceContentsBinaryPinLaw", name := "same", desc := "([BII)Z" } : Jvm.MethodName) method_3_code (3 : Nat) (Option.some Jvm.ClassFile.FieldType.boolean)).before args0 about1 = true := code_word (m := ⟨1, 2⟩) (meth := k1m2) (c := k1c2) (by decide +kernel) rfl rfl rfl (by decide +kernel)
set_option maxRecDepth 65536 in
theorem w_c13 : (Jvm.Cond.code ({ cls := "com/example/larkbridge/larkbridge/mcp/McpResourceContents", name := "uri", desc := "()Ljava/lang/String;" } : Jvm.MethodName) prog_44_method_4_code (1 : Nat) (Option.some (Jvm.ClassFile.FieldType.object "java/lang/String"))).before args0 about1 = true := code_word (m := ⟨9, 2⟩) (meth := k9m2) (c := k9c2) (by decide +kernel) rfl rfl rfl (by decide +kernel)
set_option maxRecDepth 65536 in
theorem w_c14 : (Jvm.Cond.code ({ cls := "java/lang/String", name := "equals", desc := "(Ljava/lang/Object;)Z" } : Jvm.MethodName) jdk_42_method_66_code (3 : Nat) (Option.some Jvm.ClassFile.FieldType.boolean)).before args0 about1 = true := code_word (m := ⟨7, 2⟩) (meth := k7m2) (c := k7c2) (by decide +kernel) rfl rfl rfl (by decide +kernel)
set_option maxRecDepth 65536 in
theorem w_c15 : (Jvm.Cond.code ({ cls := "com/example/larkbridge/larkbridge/mcp/McpResourceContents", name := "mimeType", desc := "()Ljava/lang/String;" } : Jvm.MethodName) prog_44_method_5_code (1 : Nat) (Option.some (Jvm.ClassFile.FieldType.object "java/lang/String"))).before args0 about1 = true := code_word (m := ⟨9, 3⟩) (meth := k9m3) (c := k9c3) (by decide +kernel) rfl rfl rfl (by decide +kernel)
set_option maxRecDepth 65536 in
theorem w_c16 : (Jvm.Cond.code ({ cls := "com/example/larkbridge/larkbridge/mcp/McpResourceContents", name := "isText", desc := "()Z" } : Jvm.MethodName) prog_44_method_6_code (1 : Nat) (Option.some Jvm.ClassFile.FieldType.boolean)).before args0 about1 = true := code_word (m := ⟨9, 4⟩) (meth := k9m4) (c := k9c4) (by decide +kernel) rfl rfl rfl (by decide +kernel)
set_option maxRecDepth 65536 in
theorem w_c17 : (Jvm.Cond.code ({ cls := "com/example/larkbridge/larkbridge/mcp/McpResourceContents", name := "text", desc := "()Ljava/lang/String;" } : Jvm.MethodName) prog_44_method_7_code (1 : Nat) (Option.some (Jvm.ClassFile.FieldType.object "java/lang/String"))).before args0 about1 = true := code_word (m := ⟨9, 5⟩) (meth := k9m5) (c := k9c5) (by decide +kernel) rfl rfl rfl (by decide +kernel)
def codes1 : List Jvm.Cond := [Jvm.Cond.code x code maxLocals ret, Jvm.Cond.code ({ cls := "com/example/larkbridge/larkbridge/mcp/McpResourceContentsBinaryPinLaw", name := "str", desc := "(II)Ljava/lang/String;" } : Jvm.MethodName) method_4_code (5 : Nat) (Option.some (Jvm.ClassFile.FieldType.object "java/lang/String")), Jvm.Cond.code ({ cls := "java/lang/String", name := "<init>", desc := "([C)V" } : Jvm.MethodName) jdk_42_method_3_code (2 : Nat) (Option.none : Option Jvm.ClassFile.FieldType), Jvm.Cond.code ({ cls := "java/lang/String", name := "<init>", desc := "([CIILjava/lang/Void;)V" } : Jvm.MethodName) jdk_42_method_149_code (6 : Nat) (Option.none : Option Jvm.ClassFile.FieldType), Jvm.Cond.code ({ cls := "java/lang/Object", name := "<init>", desc := "()V" } : Jvm.MethodName) object_method_1_code (1 : Nat) (Option.none : Option Jvm.ClassFile.FieldType), Jvm.Cond.code ({ cls := "java/lang/StringUTF16", name := "compress", desc := "([CII)[B" } : Jvm.MethodName) jdk_52_method_16_code (6 : Nat) (Option.some (Jvm.ClassFile.FieldType.array Jvm.ClassFile.FieldType.byte)), Jvm.Cond.code ({ cls := "java/lang/StringUTF16", name := "compress", desc := "([CI[BII)I" } : Jvm.MethodName) jdk_52_method_21_code (7 : Nat) (Option.some Jvm.ClassFile.FieldType.int), Jvm.Cond.code ({ cls := "java/lang/StringUTF16", name := "coderFromArrayLen", desc := "([BI)B" } : Jvm.MethodName) jdk_52_method_15_code (2 : Nat) (Option.some Jvm.ClassFile.FieldType.byte), Jvm.Cond.code ({ cls := "com/example/larkbridge/larkbridge/mcp/McpResourceContents", name := "binary", desc := "(Ljava/lang/String;Ljava/lang/String;[B)Lcom/example/larkbridge/larkbridge/mcp/McpResourceContents;" } : Jvm.MethodName) prog_44_method_3_code (3 : Nat) (Option.some (Jvm.ClassFile.FieldType.object "com/example/larkbridge/larkbridge/mcp/McpResourceContents")), Jvm.Cond.code ({ cls := "com/example/larkbridge/larkbridge/mcp/McpResourceContents", name := "<init>", desc := "(Ljava/lang/String;Ljava/lang/String;Ljava/lang/String;[B)V" } : Jvm.MethodName) prog_44_method_1_code (5 : Nat) (Option.none : Option Jvm.ClassFile.FieldType), Jvm.Cond.code ({ cls := "java/util/Objects", name := "requireNonNull", desc := "(Ljava/lang/Object;Ljava/lang/String;)Ljava/lang/Object;" } : Jvm.MethodName) jdk_31_method_11_code (2 : Nat) (Option.some (Jvm.ClassFile.FieldType.object "java/lang/Object")), Jvm.Cond.code ({ cls := "com/example/larkbridge/larkbridge/mcp/McpResourceContents", name := "bytes", desc := "()[B" } : Jvm.MethodName) prog_44_method_8_code (1 : Nat) (Option.some (Jvm.ClassFile.FieldType.array Jvm.ClassFile.FieldType.byte)), Jvm.Cond.code ({ cls := "com/example/larkbridge/larkbridge/mcp/McpResourceContentsBinaryPinLaw", name := "same", desc := "([BII)Z" } : Jvm.MethodName) method_3_code (3 : Nat) (Option.some Jvm.ClassFile.FieldType.boolean), Jvm.Cond.code ({ cls := "com/example/larkbridge/larkbridge/mcp/McpResourceContents", name := "uri", desc := "()Ljava/lang/String;" } : Jvm.MethodName) prog_44_method_4_code (1 : Nat) (Option.some (Jvm.ClassFile.FieldType.object "java/lang/String")), Jvm.Cond.code ({ cls := "java/lang/String", name := "equals", desc := "(Ljava/lang/Object;)Z" } : Jvm.MethodName) jdk_42_method_66_code (3 : Nat) (Option.some Jvm.ClassFile.FieldType.boolean), Jvm.Cond.code ({ cls := "com/example/larkbridge/larkbridge/mcp/McpResourceContents", name := "mimeType", desc := "()Ljava/lang/String;" } : Jvm.MethodName) prog_44_method_5_code (1 : Nat) (Option.some (Jvm.ClassFile.FieldType.object "java/lang/String")), Jvm.Cond.code ({ cls := "com/example/larkbridge/larkbridge/mcp/McpResourceContents", name := "isText", desc := "()Z" } : Jvm.MethodName) prog_44_method_6_code (1 : Nat) (Option.some Jvm.ClassFile.FieldType.boolean), Jvm.Cond.code ({ cls := "com/example/larkbridge/larkbridge/mcp/McpResourceContents", name := "text", desc := "()Ljava/lang/String;" } : Jvm.MethodName) prog_44_method_7_code (1 : Nat) (Option.some (Jvm.ClassFile.FieldType.object "java/lang/String"))]
set_option maxRecDepth 65536 in
theorem codes_eq : words1.filter isCode = codes1 := rfl
theorem w_codes : ∀ c ∈ words1.filter isCode, c.before args0 about1 = true := by
  rw [codes_eq]
  intro c hc
  simp only [codes1, List.mem_cons, List.not_mem_nil, or_false] at hc
  rcases hc with rfl | rfl | rfl | rfl | rfl | rfl | rfl | rfl | rfl | rfl | rfl | rfl | rfl | rfl | rfl | rfl | rfl | rfl
  · exact w_c0
  · exact w_c1
  · exact w_c2
  · exact w_c3
  · exact w_c4
  · exact w_c5
  · exact w_c6
  · exact w_c7
  · exact w_c8
  · exact w_c9
  · exact w_c10
  · exact w_c11
  · exact w_c12
  · exact w_c13
  · exact w_c14
  · exact w_c15
  · exact w_c16
  · exact w_c17
set_option maxRecDepth 65536 in
theorem w_t1 : (words1.take 24).all (fun c => isCode c || c.before args0 about1) = true := by decide +kernel
set_option maxRecDepth 65536 in
theorem w_t2 : ((words1.drop 24).take 24).all (fun c => isCode c || c.before args0 about1) = true := by decide +kernel
set_option maxRecDepth 65536 in
theorem w_t3 : (((words1.drop 24).drop 24).take 24).all (fun c => isCode c || c.before args0 about1) = true := by decide +kernel
set_option maxRecDepth 65536 in
theorem w_t4 : ((((words1.drop 24).drop 24).drop 24).take 24).all (fun c => isCode c || c.before args0 about1) = true := by decide +kernel
set_option maxRecDepth 65536 in
theorem w_t5 : ((((words1.drop 24).drop 24).drop 24).drop 24).all (fun c => isCode c || c.before args0 about1) = true := by decide +kernel
theorem w_tables : (allAtoms (Jvm.Cond.code x code maxLocals ret :: tables_1)).before args0 about1 = true := by
  rw [allAtoms_all]
  show words1.all (fun c => c.before args0 about1) = true
  refine all_split ?_ w_codes
  rw [← List.take_append_drop 24 words1, List.all_append, w_t1, ← List.take_append_drop 24 (words1.drop 24), List.all_append, w_t2, ← List.take_append_drop 24 ((words1.drop 24).drop 24), List.all_append, w_t3, ← List.take_append_drop 24 (((words1.drop 24).drop 24).drop 24), List.all_append, w_t4, w_t5]
  rfl
set_option maxRecDepth 65536 in
theorem w_rest : rest_1_c.before args0 about1 = true := by decide +kernel
set_option maxRecDepth 65536 in
theorem w_case : (Jvm.Cond.and given_1 narrow_1).before args0 about1 = true := by decide +kernel
set_option maxRecDepth 65536 in
theorem w_consts : constsHeld consts_1 about1 := Jvm.Lit.constsHeldB_iff.mp (by decide +kernel)
theorem w_applies : (headSpec (Jvm.Cond.code x code maxLocals ret :: tables_1) room_1).applies x e0.platform about1 = true :=
  (Spec.applies_iff w_frames).mpr ⟨w_running, w_runnable, w_alone, w_named, w_hears, w_ripe, w_room, w_tables⟩
theorem atStart : AtStart classFile x code maxLocals ret World_1 tables_1 room_1 Calls_1 rest_1 Pre_1 launch0 p0 e0 about1 theMethod args0 below0 :=
  ⟨lists_1, trivial, launch0.admits_env _ _ _, launch0.least_env, fairChoices_fair.cas, fairChoices_fair.clock, w_frames, w_args, w_heap, w_applies, ⟨w_consts, trivial⟩, w_rest, w_case⟩
end start1
theorem witness_1 : WitnessClaimed_1 := ⟨start1.p0, start1.e0, start1.about1, start1.theMethod, start1.args0, start1.below0, start1.atStart⟩
end Jvm.Pilot.@@N@@
