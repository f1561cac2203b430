import JvmDerived
import JvmDerived.Pilot.@@N@@Statement
import JvmDerived.Pilot.@@N@@Code
set_option linter.unusedVariables false
set_option linter.unusedSimpArgs false
/- laws to paste: Road.backV (cut by pick.py; bodies as the Statement names them) -/
namespace Jvm.Pilot.@@N@@
namespace StrChars
open Jvm Sem ClassFile Op Lib Jvm.Stand Jvm.Free.XT Jvm.Free.ALB Jvm.Free.JM Jvm.Free
open Jvm.Lib.Cold (StaticIs)
/-- a char array whose places are chars -/
def Ch (a : Addr) (A : Cell) (U : State) : Prop := Arr .char a A U ∧ Typed .char A
theorem Ch.mv {a : Addr} {A : Cell} {U U' : State} (h : Ch a A U) (hal : U.vm.Alike U'.vm) (hh : U'.heap = U.heap) : Ch a A U' := ⟨h.1.mv hal hh, h.2⟩
theorem Ch.keep {a : Addr} {A : Cell} {U U' : State} (h : Ch a A U) (hal : U.vm.Alike U'.vm) (hk : U'.heap[a]? = some A) : Ch a A U' := ⟨h.1.keep hal hk, h.2⟩
/-- what place i of a char[]'s cell holds -/
def cv (A : Cell) (i : Nat) : Int32 := match A.slots[i]? with | some (.int x) => x | _ => 0
theorem Ch.get {a : Addr} {A : Cell} {U : State} (h : Ch a A U) {i : Nat} (hi : i < A.slots.size) : A.slots[i]? = some (.int (cv A i)) := by
  have e := Array.getElem?_eq_getElem hi
  have f := h.2 i _ e
  unfold cv; rw [e]
  generalize A.slots[i] = v at f
  cases v <;> simp [fits] at f ⊢
/-- the byte that i2b leaves of a char -/
def lo8 (x : Int32) : Int32 := x.toInt8.toInt32
theorem fits_lo8 (y : Int32) : fits .byte (.int (lo8 y)) = true := by
  have h1 := y.toInt8.le_toInt
  have h2 := y.toInt8.toInt_lt
  simp only [lo8, fits, Bool.and_eq_true, decide_eq_true_eq, Int32.le_iff_toInt_le, Int8.toInt_toInt32, show (-128 : Int32).toInt = -128 from by decide, show (127 : Int32).toInt = 127 from by decide]
  omega
/-- A' is A but that each place j of lo .. hi - 1 holds f j -/
def Laid (A A' : Cell) (lo hi : Nat) (f : Nat → Value) : Prop := A'.cls = A.cls ∧ A'.vm = A.vm ∧ A'.slots.size = A.slots.size ∧ ∀ i, A'.slots[i]? = if lo ≤ i ∧ i < hi then some (f i) else A.slots[i]?
theorem Laid.zero (A : Cell) (lo : Nat) (f : Nat → Value) : Laid A A lo (lo + 0) f := ⟨rfl, rfl, rfl, fun i => by rw [if_neg (by omega)]⟩
theorem Laid.step {A Ak : Cell} {lo k : Nat} {f : Nat → Value} {v : Value} (h : Laid A Ak lo k f) (hlo : lo ≤ k) (hk : k < Ak.slots.size) (hv : v = f k) : Laid A (Ak.setSlot k v) lo (k + 1) f := by
  refine ⟨h.1, h.2.1, by simpa [Cell.setSlot] using h.2.2.1, fun i => ?_⟩
  by_cases e : k = i
  · subst e; rw [Cell.slots_setSlot_self v hk, if_pos (by omega), hv]
  · rw [Cell.slots_setSlot_ne v e, h.2.2.2 i]
    by_cases q : lo ≤ i ∧ i < k
    · rw [if_pos q, if_pos (by omega)]
    · rw [if_neg q, if_neg (by omega)]
def U16 : String := "java/lang/StringUTF16"
namespace Cmp5
def yN : MethodName := ⟨"java/lang/StringUTF16", "compress", "([CI[BII)I"⟩
abbrev yB : ByteArray := jdk_52_method_21_code
theorem d0 : decode yB 0 = .ok (.iconst 0, 1) := by decide +kernel
theorem d1 : decode yB 1 = .ok (.istore 5, 2) := by decide +kernel
theorem d3 : decode yB 3 = .ok (.iload 5, 2) := by decide +kernel
theorem d5 : decode yB 5 = .ok (.iload 4, 2) := by decide +kernel
theorem d7 : decode yB 7 = .ok (.if_icmp (.ge) 37, 3) := by decide +kernel
theorem d10 : decode yB 10 = .ok (.aload_n 0, 1) := by decide +kernel
theorem d11 : decode yB 11 = .ok (.iload_n 1, 1) := by decide +kernel
theorem d12 : decode yB 12 = .ok (.caload, 1) := by decide +kernel
theorem d13 : decode yB 13 = .ok (.istore 6, 2) := by decide +kernel
theorem d15 : decode yB 15 = .ok (.iload 6, 2) := by decide +kernel
theorem d17 : decode yB 17 = .ok (.sipush 255, 3) := by decide +kernel
theorem d20 : decode yB 20 = .ok (.if_icmp (.le) 6, 3) := by decide +kernel
theorem d26 : decode yB 26 = .ok (.aload_n 2, 1) := by decide +kernel
theorem d27 : decode yB 27 = .ok (.iload_n 3, 1) := by decide +kernel
theorem d28 : decode yB 28 = .ok (.iload 6, 2) := by decide +kernel
theorem d30 : decode yB 30 = .ok (.i2b, 1) := by decide +kernel
theorem d31 : decode yB 31 = .ok (.bastore, 1) := by decide +kernel
theorem d32 : decode yB 32 = .ok (.iinc 1 1, 3) := by decide +kernel
theorem d35 : decode yB 35 = .ok (.iinc 3 1, 3) := by decide +kernel
theorem d38 : decode yB 38 = .ok (.iinc 5 1, 3) := by decide +kernel
theorem d41 : decode yB 41 = .ok (.goto (-38), 3) := by decide +kernel
theorem d44 : decode yB 44 = .ok (.iload 4, 2) := by decide +kernel
theorem d46 : decode yB 46 = .ok (.ireturn, 1) := by decide +kernel
def site : List Cond := []
def tab : Cond := tabOf yN yB 7 (some .int) site
def P (b : Addr) (A : Cell) (d : Addr) (B : Cell) (o q len : Nat) (args : Array Value) (s : State) : Prop := args = #[.ref b, .int (Int32.ofNat o), .ref d, .int (Int32.ofNat q), .int (Int32.ofNat len)] ∧ Ch b A s ∧ Arr .byte d B s ∧ b ≠ d ∧ o + len ≤ A.slots.size ∧ q + len ≤ B.slots.size ∧ ∀ i, i < len → ¬ 255 < cv A (o + i)
def E (b : Addr) (A : Cell) (d : Addr) (B : Cell) (o q len : Nat) (r : Option Value) (s u : State) : Prop := r = some (.int (Int32.ofNat len)) ∧ ∃ B', Put d B' s u ∧ Laid B B' q (q + len) (fun j => Value.int (lo8 (cv A (o + (j - q)))))
/-- no char of the range above 255: len; the places written hold each char's low byte -/
theorem law (l : Launch) (b : Addr) (A : Cell) (d : Addr) (B : Cell) (o q len : Nat) : Law l yN 5 5 0 0 yB 7 (some .int) site (P b A d B o q len) (E b A d B o q len) (copyLocs d q len) 0 0 := by
  refine Law.of_walk (plainFor_of_name (by decide +kernel)) (by decide +kernel) (by decide +kernel) (by decide) (fun _ _ h => by rw [h.1]; rfl) (fun _ U U' hal hh h => ⟨h.1, h.2.1.mv hal hh, h.2.2.1.mv hal hh, h.2.2.2⟩) (fun r U U' V V' h1 hal h2 h => ⟨h.1, h.2.elim fun B' q => ⟨B', q.1.mv h1 h2, q.2⟩⟩) ?_
  intro p e s m args below meth c s₁ X0 hexec hbytes hml hret hlk hnm hown hh0 W hP
  obtain ⟨rfl, hA, hB, hne, l1, l2, hp⟩ := hP
  have c1 : Steps p.tables e below (s₁.setTop (entryFrame m #[.ref b, .int (Int32.ofNat o), .ref d, .int (Int32.ofNat q), .int (Int32.ofNat len)] 7)) (s₁.setTop (mkF m 0 #[.val (.ref b), .val (.int (Int32.ofNat o)), .val (.ref d), .val (.int (Int32.ofNat q)), .val (.int (Int32.ofNat len)), .unset, .unset] [])) := entry rfl
  have hA0 := hA.1.mv X0.warmed.alike hh0
  have hB0 := hB.mv X0.warmed.alike hh0
  have a31 := hA.1.2.2.2
  have c2 : Steps p.tables e below (s₁.setTop (entryFrame m #[.ref b, .int (Int32.ofNat o), .ref d, .int (Int32.ofNat q), .int (Int32.ofNat len)] 7)) (s₁.setTop (mkF m 3 #[.val (.ref b), .val (.int (Int32.ofNat o)), .val (.ref d), .val (.int (Int32.ofNat q)), .val (.int (Int32.ofNat len)), .val (.int 0), .unset] [])) := c1.trans (by
    refine iconstV X0.here hexec rfl 0 (hb hbytes d0) (by decide) ?_
    refine XS.istore X0.here hexec rfl (hb hbytes d1) rfl rfl ?_
    exact Steps.refl _)
  have loop : ∀ (r i : Nat), i + r = len → ∀ (z : Slot), (z = .unset ∨ ∃ w, z = .val w ∧ w.category = 1) → ∀ (Tl : State) (Bk : Cell), Stand p l e { frames := 0, locals := 0, cells := 0, slots := 0 } s m #[.ref b, .int (Int32.ofNat o), .ref d, .int (Int32.ofNat q), .int (Int32.ofNat len)] below meth c Tl ([] ++ copyLocs d q i) 0 0 → Put d Bk s₁ Tl → Laid B Bk q (q + i) (fun j => Value.int (lo8 (cv A (o + (j - q))))) →
      Steps p.tables e below (s₁.setTop (entryFrame m #[.ref b, .int (Int32.ofNat o), .ref d, .int (Int32.ofNat q), .int (Int32.ofNat len)] 7)) (Tl.setTop (mkF m 3 #[.val (.ref b), .val (.int (Int32.ofNat (o + i))), .val (.ref d), .val (.int (Int32.ofNat (q + i))), .val (.int (Int32.ofNat len)), .val (.int (Int32.ofNat i)), z] [])) → ∃ (T' : State) (B' : Cell) (z' : Slot), Stand p l e { frames := 0, locals := 0, cells := 0, slots := 0 } s m #[.ref b, .int (Int32.ofNat o), .ref d, .int (Int32.ofNat q), .int (Int32.ofNat len)] below meth c T' ([] ++ copyLocs d q len) 0 0 ∧ Put d B' s₁ T' ∧ Laid B B' q (q + len) (fun j => Value.int (lo8 (cv A (o + (j - q))))) ∧
      Steps p.tables e below (s₁.setTop (entryFrame m #[.ref b, .int (Int32.ofNat o), .ref d, .int (Int32.ofNat q), .int (Int32.ofNat len)] 7)) (T'.setTop (mkF m 3 #[.val (.ref b), .val (.int (Int32.ofNat (o + len))), .val (.ref d), .val (.int (Int32.ofNat (q + len))), .val (.int (Int32.ofNat len)), .val (.int (Int32.ofNat len)), z'] [])) := by
    intro r
    induction r with
    | zero =>
      intro i hi z hz Tl Bk Xl pl fl cl
      have hil : i = len := by omega
      rw [hil] at Xl fl cl
      exact ⟨Tl, Bk, z, Xl, pl, fl, cl⟩
    | succ r ih =>
      intro i hi z hz Tl Bk Xl pl fl cl
      have all := X0.warmed.alike.symm.trans Xl.warmed.alike
      have hAl := hA0.keep all (pl.other hne hA0.1)
      have hBk := hB0.like all pl.1 fl.1 fl.2.1 fl.2.2.1
      have hlt : q + i < Bk.slots.size := by rw [fl.2.2.1]; omega
      have c3 : Steps p.tables e below (s₁.setTop (entryFrame m #[.ref b, .int (Int32.ofNat o), .ref d, .int (Int32.ofNat q), .int (Int32.ofNat len)] 7)) (Tl.setTop (mkF m 12 #[.val (.ref b), .val (.int (Int32.ofNat (o + i))), .val (.ref d), .val (.int (Int32.ofNat (q + i))), .val (.int (Int32.ofNat len)), .val (.int (Int32.ofNat i)), z] [.int (Int32.ofNat (o + i)), .ref b])) := cl.trans (by
        refine XS.iload Xl.here hexec rfl (hb hbytes d3) rfl ?_
        refine XS.iload Xl.here hexec rfl (hb hbytes d5) rfl ?_
        refine XS.icmpNo Xl.here hexec rfl (hb hbytes d7) rfl (ii_ge_f (lt32 (by omega) (by omega))) ?_
        refine XS.aloadN Xl.here hexec rfl (hb hbytes d10) rfl rfl ?_
        refine XS.iloadN Xl.here hexec rfl (hb hbytes d11) rfl ?_
        exact Steps.refl _)
      have c4 : Steps p.tables e below (s₁.setTop (entryFrame m #[.ref b, .int (Int32.ofNat o), .ref d, .int (Int32.ofNat q), .int (Int32.ofNat len)] 7)) (Tl.setTop (mkF m 13 #[.val (.ref b), .val (.int (Int32.ofNat (o + i))), .val (.ref d), .val (.int (Int32.ofNat (q + i))), .val (.int (Int32.ofNat len)), .val (.int (Int32.ofNat i)), z] [.int (cv A (o + i))])) := c3.trans (by
        refine Xl.aget hexec hAl rfl (hA.get (i := o + i) (by omega)) rfl rfl (hb hbytes d12) ?_
        exact Steps.refl _)
      have c5 : Steps p.tables e below (s₁.setTop (entryFrame m #[.ref b, .int (Int32.ofNat o), .ref d, .int (Int32.ofNat q), .int (Int32.ofNat len)] 7)) (Tl.setTop (mkF m 15 #[.val (.ref b), .val (.int (Int32.ofNat (o + i))), .val (.ref d), .val (.int (Int32.ofNat (q + i))), .val (.int (Int32.ofNat len)), .val (.int (Int32.ofNat i)), .val (.int (cv A (o + i)))] [])) := c4.trans (by
        refine XS.istoreS Xl.here hexec rfl (hb hbytes d13) rfl rfl hz ?_
        exact Steps.refl _)
      have c6 : Steps p.tables e below (s₁.setTop (entryFrame m #[.ref b, .int (Int32.ofNat o), .ref d, .int (Int32.ofNat q), .int (Int32.ofNat len)] 7)) (Tl.setTop (mkF m 31 #[.val (.ref b), .val (.int (Int32.ofNat (o + i))), .val (.ref d), .val (.int (Int32.ofNat (q + i))), .val (.int (Int32.ofNat len)), .val (.int (Int32.ofNat i)), .val (.int (cv A (o + i)))] [.int (lo8 (cv A (o + i))), .int (Int32.ofNat (q + i)), .ref d])) := c5.trans (by
        refine XS.iload Xl.here hexec rfl (hb hbytes d15) rfl ?_
        refine sipushV Xl.here hexec rfl 255 (hb hbytes d17) (by decide) ?_
        refine XS.icmpYes Xl.here hexec rfl (pc0 := 20) rfl (hb hbytes d20) rfl (ii_le_t (hp i (by omega))) (by decide) rfl ?_
        refine XS.aloadN Xl.here hexec rfl (hb hbytes d26) rfl rfl ?_
        refine XS.iloadN Xl.here hexec rfl (hb hbytes d27) rfl ?_
        refine XS.iload Xl.here hexec rfl (hb hbytes d28) rfl ?_
        refine i2b Xl.here hexec rfl (hb hbytes d30) rfl ?_
        exact Steps.refl _)
      obtain ⟨T7, X7, p7, st7⟩ := Xl.aput hexec hBk rfl hlt rfl (fits_lo8 (cv A (o + i))) (g := (mkF m 31 #[.val (.ref b), .val (.int (Int32.ofNat (o + i))), .val (.ref d), .val (.int (Int32.ofNat (q + i))), .val (.int (Int32.ofNat len)), .val (.int (Int32.ofNat i)), .val (.int (cv A (o + i)))] [.int (lo8 (cv A (o + i))), .int (Int32.ofNat (q + i)), .ref d])) rfl (rest := []) rfl (hb hbytes d31)
      have c8 : Steps p.tables e below (s₁.setTop (entryFrame m #[.ref b, .int (Int32.ofNat o), .ref d, .int (Int32.ofNat q), .int (Int32.ofNat len)] 7)) (T7.setTop (mkF m 32 #[.val (.ref b), .val (.int (Int32.ofNat (o + i))), .val (.ref d), .val (.int (Int32.ofNat (q + i))), .val (.int (Int32.ofNat len)), .val (.int (Int32.ofNat i)), .val (.int (cv A (o + i)))] [])) := c6.trans (st7 _ (Steps.refl _))
      have c9 : Steps p.tables e below (s₁.setTop (entryFrame m #[.ref b, .int (Int32.ofNat o), .ref d, .int (Int32.ofNat q), .int (Int32.ofNat len)] 7)) (T7.setTop (mkF m 3 #[.val (.ref b), .val (.int (Int32.ofNat (o + i) + 1)), .val (.ref d), .val (.int (Int32.ofNat (q + i) + 1)), .val (.int (Int32.ofNat len)), .val (.int (Int32.ofNat i + 1)), .val (.int (cv A (o + i)))] [])) := c8.trans (by
        refine iincV X7.here hexec rfl 1 (hb hbytes d32) (by decide) rfl rfl ?_
        refine iincV X7.here hexec rfl 1 (hb hbytes d35) (by decide) rfl rfl ?_
        refine iincV X7.here hexec rfl 1 (hb hbytes d38) (by decide) rfl rfl ?_
        refine XS.goto X7.here hexec rfl (pc0 := 41) rfl (hb hbytes d41) (by decide) rfl ?_
        exact Steps.refl _)
      have c10 : Steps p.tables e below (s₁.setTop (entryFrame m #[.ref b, .int (Int32.ofNat o), .ref d, .int (Int32.ofNat q), .int (Int32.ofNat len)] 7)) (T7.setTop (mkF m 3 #[.val (.ref b), .val (.int (Int32.ofNat (o + (i + 1)))), .val (.ref d), .val (.int (Int32.ofNat (q + (i + 1)))), .val (.int (Int32.ofNat len)), .val (.int (Int32.ofNat (i + 1))), .val (.int (cv A (o + i)))] [])) := by
        have := c9
        rw [succ32, succ32, succ32] at this
        exact this
      exact ih (i + 1) (by omega) _ (Or.inr ⟨_, rfl, rfl⟩) T7 _ (by rw [copyLocs_step, ← List.append_assoc]; exact X7) (pl.trans p7) (fl.step (by omega) hlt (by simp)) c10
  obtain ⟨T9, B9, z9, X9, p9, f9, g9⟩ := loop len 0 (by omega) .unset (Or.inl rfl) s₁ B (by simpa [copyLocs] using X0) ⟨hB0.1, fun _ _ => rfl, rfl⟩ (Laid.zero _ _ _) c2
  have c11 : Steps p.tables e below (s₁.setTop (entryFrame m #[.ref b, .int (Int32.ofNat o), .ref d, .int (Int32.ofNat q), .int (Int32.ofNat len)] 7)) (T9.setTop (mkF m 46 #[.val (.ref b), .val (.int (Int32.ofNat (o + len))), .val (.ref d), .val (.int (Int32.ofNat (q + len))), .val (.int (Int32.ofNat len)), .val (.int (Int32.ofNat len)), z9] [.int (Int32.ofNat len)])) := g9.trans (by
    refine XS.iload X9.here hexec rfl (hb hbytes d3) rfl ?_
    refine XS.iload X9.here hexec rfl (hb hbytes d5) rfl ?_
    refine XS.icmpYes X9.here hexec rfl (pc0 := 7) rfl (hb hbytes d7) rfl (ii_ge_t (nlt32 (by omega) (Nat.le_refl _))) (by decide) rfl ?_
    refine XS.iload X9.here hexec rfl (hb hbytes d44) rfl ?_
    exact Steps.refl _)
  exact ⟨T9, some (.int (Int32.ofNat len)), _, _, _, X9, by simp, rfl, rfl, (fun h => by cases h), ⟨rfl, B9, p9.from hh0, f9⟩, fun fs hl => c11.trans (X9.ireturnOut hexec hret rfl (Or.inl rfl) (hb hbytes d46) hl)⟩
end Cmp5
namespace Cmp3
def yN : MethodName := ⟨"java/lang/StringUTF16", "compress", "([CII)[B"⟩
abbrev yB : ByteArray := jdk_52_method_16_code
theorem d0 : decode yB 0 = .ok (.iload_n 2, 1) := by decide +kernel
theorem d1 : decode yB 1 = .ok (.newarray .byte, 2) := by decide +kernel
theorem d3 : decode yB 3 = .ok (.astore_n 3, 1) := by decide +kernel
theorem d4 : decode yB 4 = .ok (.aload_n 0, 1) := by decide +kernel
theorem d5 : decode yB 5 = .ok (.iload_n 1, 1) := by decide +kernel
theorem d6 : decode yB 6 = .ok (.aload_n 3, 1) := by decide +kernel
theorem d7 : decode yB 7 = .ok (.iconst 0, 1) := by decide +kernel
theorem d8 : decode yB 8 = .ok (.iload_n 2, 1) := by decide +kernel
theorem d9 : decode yB 9 = .ok (.invokestatic 115, 3) := by decide +kernel
theorem d12 : decode yB 12 = .ok (.istore 4, 2) := by decide +kernel
theorem d14 : decode yB 14 = .ok (.iload 4, 2) := by decide +kernel
theorem d16 : decode yB 16 = .ok (.iload_n 2, 1) := by decide +kernel
theorem d17 : decode yB 17 = .ok (.if_icmp (.eq) 40, 3) := by decide +kernel
theorem d57 : decode yB 57 = .ok (.aload_n 3, 1) := by decide +kernel
theorem d58 : decode yB 58 = .ok (.areturn, 1) := by decide +kernel
def site : List Cond := [.arrayClass .byte, Cmp5.tab] ++ staticW U16 115 Cmp5.yN
def tab : Cond := tabOf yN yB 6 (some (.array .byte)) site
def P (b : Addr) (A : Cell) (o len : Nat) (args : Array Value) (s : State) : Prop := args = #[.ref b, .int (Int32.ofNat o), .int (Int32.ofNat len)] ∧ Ch b A s ∧ o + len ≤ A.slots.size ∧ len ≤ 536870912 ∧ ∀ i, i < len → ¬ 255 < cv A (o + i)
def E (b : Addr) (A : Cell) (o len : Nat) (r : Option Value) (s u : State) : Prop := NewArr .byte "[B" len (fun j => .int (lo8 (cv A (o + j)))) r s u ∧ u.heap.size = s.heap.size + 1
/-- no char of the range above 255: a new byte[] of their low bytes -/
theorem law (l : Launch) (b : Addr) (A : Cell) (o len : Nat) : Law l yN 3 3 1 18 yB 6 (some (.array .byte)) site (P b A o len) (E b A o len) [] 1 len := by
  refine Law.of_walk (plainFor_of_name (by decide +kernel)) (by decide +kernel) (by decide +kernel) (by decide) (fun _ _ h => by rw [h.1]; rfl) (fun _ U U' hal hh h => ⟨h.1, h.2.1.mv hal hh, h.2.2⟩) (fun r U U' V V' h1 hal h2 h => ⟨NewArr.mv r U U' V V' h1 hal h2 h.1, by rw [h1, h2]; exact h.2⟩) ?_
  intro p e s m args below meth c s₁ X0 hexec hbytes hml hret hlk hnm hown hh0 W hP
  obtain ⟨rfl, hA, l1, l2, hp⟩ := hP
  have a31 := hA.1.2.2.2
  have c1 : Steps p.tables e below (s₁.setTop (entryFrame m #[.ref b, .int (Int32.ofNat o), .int (Int32.ofNat len)] 6)) (s₁.setTop (mkF m 0 #[.val (.ref b), .val (.int (Int32.ofNat o)), .val (.int (Int32.ofNat len)), .unset, .unset, .unset] [])) := entry rfl
  have c2 : Steps p.tables e below (s₁.setTop (entryFrame m #[.ref b, .int (Int32.ofNat o), .int (Int32.ofNat len)] 6)) (s₁.setTop (mkF m 1 #[.val (.ref b), .val (.int (Int32.ofNat o)), .val (.int (Int32.ofNat len)), .unset, .unset, .unset] [.int (Int32.ofNat len)])) := c1.trans (by
    refine XS.iloadN X0.here hexec rfl (hb hbytes d0) rfl ?_
    exact Steps.refl _)
  obtain ⟨T3, B3, X3, ba3, bs3, bv3, bh3, bf3, st3⟩ := X0.anew hexec (atype := .byte) (wk W (.arrayClass .byte)) rfl (by show len * 1 ≤ _; omega) (by omega) (g := (mkF m 1 #[.val (.ref b), .val (.int (Int32.ofNat o)), .val (.int (Int32.ofNat len)), .unset, .unset, .unset] [.int (Int32.ofNat len)])) rfl (hb hbytes d1) (rest := []) rfl (Nat.le_refl _) (by show 0 + len ≤ len; omega)
  rw [hh0] at ba3 st3
  have kp3 : XT.Kept s T3 := (XT.Kept.of_eq hh0).push bh3
  have hA3 := hA.keep X3.warmed.alike (kp3 _ _ hA.1.1)
  have hne : b ≠ s.heap.size := hA.1.ne
  have c4 : Steps p.tables e below (s₁.setTop (entryFrame m #[.ref b, .int (Int32.ofNat o), .int (Int32.ofNat len)] 6)) (T3.setTop (mkF m 3 #[.val (.ref b), .val (.int (Int32.ofNat o)), .val (.int (Int32.ofNat len)), .unset, .unset, .unset] [.ref s.heap.size])) := c2.trans (st3 _ (Steps.refl _))
  have c5 : Steps p.tables e below (s₁.setTop (entryFrame m #[.ref b, .int (Int32.ofNat o), .int (Int32.ofNat len)] 6)) (T3.setTop (mkF m 9 #[.val (.ref b), .val (.int (Int32.ofNat o)), .val (.int (Int32.ofNat len)), .val (.ref s.heap.size), .unset, .unset] [.int (Int32.ofNat len), .int 0, .ref s.heap.size, .int (Int32.ofNat o), .ref b])) := c4.trans (by
    refine XS.astoreN X3.here hexec rfl (hb hbytes d3) rfl rfl rfl ?_
    refine XS.aloadN X3.here hexec rfl (hb hbytes d4) rfl rfl ?_
    refine XS.iloadN X3.here hexec rfl (hb hbytes d5) rfl ?_
    refine XS.aloadN X3.here hexec rfl (hb hbytes d6) rfl rfl ?_
    refine iconstV X3.here hexec rfl 0 (hb hbytes d7) (by decide) ?_
    refine XS.iloadN X3.here hexec rfl (hb hbytes d8) rfl ?_
    exact Steps.refl _)
  obtain ⟨v6, T6, X6, E6, g6⟩ := X3.callS hexec (Cmp5.law l b A s.heap.size B3 o 0 len) hown (wks W (staticW U16 115 Cmp5.yN)) (wk W Cmp5.tab) (W := 0) (Nat.le_of_ble_eq_true rfl) (Nat.le_of_ble_eq_true rfl) (Nat.le_refl _) (by show 0 + len + 0 ≤ len; omega) (g := (mkF m 9 #[.val (.ref b), .val (.int (Int32.ofNat o)), .val (.int (Int32.ofNat len)), .val (.ref s.heap.size), .unset, .unset] [.int (Int32.ofNat len), .int (Int32.ofNat 0), .ref s.heap.size, .int (Int32.ofNat o), .ref b])) rfl (by rw [hml]; rfl) c5 (argsL := [.ref b, .int (Int32.ofNat o), .ref s.heap.size, .int (Int32.ofNat 0), .int (Int32.ofNat len)]) (rest := []) rfl rfl (by show 2 * 0 + 0 ≤ _; decide) (hb hbytes d9) (⟨rfl, hA3, ba3, hne, l1, by rw [bs3]; simp, hp⟩)
  obtain ⟨rfl, B6, p6, f6⟩ := E6
  have c7 : Steps p.tables e below (s₁.setTop (entryFrame m #[.ref b, .int (Int32.ofNat o), .int (Int32.ofNat len)] 6)) (T6.setTop (mkF m 12 #[.val (.ref b), .val (.int (Int32.ofNat o)), .val (.int (Int32.ofNat len)), .val (.ref s.heap.size), .unset, .unset] [.int (Int32.ofNat len)])) := g6
  have c8 : Steps p.tables e below (s₁.setTop (entryFrame m #[.ref b, .int (Int32.ofNat o), .int (Int32.ofNat len)] 6)) (T6.setTop (mkF m 58 #[.val (.ref b), .val (.int (Int32.ofNat o)), .val (.int (Int32.ofNat len)), .val (.ref s.heap.size), .val (.int (Int32.ofNat len)), .unset] [.ref s.heap.size])) := c7.trans (by
    refine XS.istore X6.here hexec rfl (hb hbytes d12) rfl rfl ?_
    refine XS.iload X6.here hexec rfl (hb hbytes d14) rfl ?_
    refine XS.iloadN X6.here hexec rfl (hb hbytes d16) rfl ?_
    refine XS.icmpYes X6.here hexec rfl (pc0 := 17) rfl (hb hbytes d17) rfl (ii_eq_t rfl) (by decide) rfl ?_
    refine XS.aloadN X6.here hexec rfl (hb hbytes d57) rfl rfl ?_
    exact Steps.refl _)
  have X8 := X6.wide (L' := []) (cells' := 1) (slots' := len) (fun x hx hlt => by
    simp only [List.nil_append, copyLocs, List.mem_map, List.mem_range] at hx
    obtain ⟨i, -, rfl⟩ := hx
    exact absurd hlt (Nat.lt_irrefl _)) (Nat.le_refl _) (by omega)
  exact ⟨T6, some (.ref s.heap.size), _, _, _, X8, rfl, rfl, rfl, (fun h => by cases h), ⟨⟨rfl, B6, ba3.like (X3.warmed.alike.symm.trans X6.warmed.alike) p6.1 f6.1 f6.2.1 f6.2.2.1, f6.2.1.trans bv3, by rw [X6.warmed.alike.findClass, f6.1]; exact bf3, by rw [f6.2.2.1, bs3]; simp, fun j hj => by rw [f6.2.2.2 j, if_pos (by omega)]; rfl, kp3.put p6 (Nat.le_refl _)⟩, by rw [p6.2.2, bh3, hh0]; simp⟩, fun fs hl => c8.trans (X8.areturnOut hexec rfl hret rfl (hb hbytes d58) hl)⟩
end Cmp3
namespace CodL
def yN : MethodName := ⟨"java/lang/StringUTF16", "coderFromArrayLen", "([BI)B"⟩
abbrev yB : ByteArray := jdk_52_method_15_code
theorem d0 : decode yB 0 = .ok (.iload_n 1, 1) := by decide +kernel
theorem d1 : decode yB 1 = .ok (.aload_n 0, 1) := by decide +kernel
theorem d2 : decode yB 2 = .ok (.arraylength, 1) := by decide +kernel
theorem d3 : decode yB 3 = .ok (.isub, 1) := by decide +kernel
theorem d4 : decode yB 4 = .ok (.bipush 31, 2) := by decide +kernel
theorem d6 : decode yB 6 = .ok (.iushr, 1) := by decide +kernel
theorem d7 : decode yB 7 = .ok (.i2b, 1) := by decide +kernel
theorem d8 : decode yB 8 = .ok (.ireturn, 1) := by decide +kernel
def site : List Cond := []
def tab : Cond := tabOf yN yB 2 (some .byte) site
def P (d : Addr) (B : Cell) (args : Array Value) (s : State) : Prop := args = #[.ref d, .int (Int32.ofNat B.slots.size)] ∧ Arr .byte d B s
def E (r : Option Value) (s u : State) : Prop := XT.PureE (some (.int 0)) r s u
/-- an array as long as the number of chars: LATIN1 -/
theorem law (l : Launch) (d : Addr) (B : Cell) : Law l yN 2 2 0 0 yB 2 (some .byte) site (P d B) E [] 0 0 := by
  refine Law.of_walk (plainFor_of_name (by decide +kernel)) (by decide +kernel) (by decide +kernel) (by decide) (fun _ _ h => by rw [h.1]; rfl) (fun _ U U' hal hh h => ⟨h.1, h.2.mv hal hh⟩) (fun r U U' V V' h1 hal h2 h => XT.PureE.mv r U U' V V' h1 hal h2 h) ?_
  intro p e s m args below meth c s₁ X0 hexec hbytes hml hret hlk hnm hown hh0 W hP
  obtain ⟨rfl, hB⟩ := hP
  have hB0 := hB.mv X0.warmed.alike hh0
  have c1 : Steps p.tables e below (s₁.setTop (entryFrame m #[.ref d, .int (Int32.ofNat B.slots.size)] 2)) (s₁.setTop (mkF m 0 #[.val (.ref d), .val (.int (Int32.ofNat B.slots.size))] [])) := entry rfl
  have c2 : Steps p.tables e below (s₁.setTop (entryFrame m #[.ref d, .int (Int32.ofNat B.slots.size)] 2)) (s₁.setTop (mkF m 2 #[.val (.ref d), .val (.int (Int32.ofNat B.slots.size))] [.ref d, .int (Int32.ofNat B.slots.size)])) := c1.trans (by
    refine XS.iloadN X0.here hexec rfl (hb hbytes d0) rfl ?_
    refine XS.aloadN X0.here hexec rfl (hb hbytes d1) rfl rfl ?_
    exact Steps.refl _)
  have c3 : Steps p.tables e below (s₁.setTop (entryFrame m #[.ref d, .int (Int32.ofNat B.slots.size)] 2)) (s₁.setTop (mkF m 8 #[.val (.ref d), .val (.int (Int32.ofNat B.slots.size))] [.int (lo8 (ushr (Int32.ofNat B.slots.size - Int32.ofNat B.slots.size) 31))])) := c2.trans (by
    refine X0.alen hexec hB0 rfl rfl (hb hbytes d2) ?_
    refine XS.isub X0.here hexec rfl (hb hbytes d3) rfl ?_
    refine bipushV X0.here hexec rfl 31 (hb hbytes d4) (by decide) ?_
    refine iushr X0.here hexec rfl (hb hbytes d6) rfl ?_
    refine i2b X0.here hexec rfl (hb hbytes d7) rfl ?_
    exact Steps.refl _)
  have e0 : lo8 (ushr (Int32.ofNat B.slots.size - Int32.ofNat B.slots.size) 31) = 0 := by rw [Int32.sub_self]; decide
  rw [e0] at c3
  exact ⟨s₁, some (.int 0), _, _, _, X0, rfl, rfl, rfl, (fun h => by cases h), ⟨rfl, hh0⟩, fun fs hl => c3.trans (X0.ireturnOut hexec hret rfl (Or.inr (Or.inr (Or.inl rfl))) (hb hbytes d8) hl)⟩
end CodL
/-- the String at a is Latin-1 over a new byte[] (the heap's one new cell): the low bytes of the len chars of A from o on; every cell but a is kept -/
def Got (a : Addr) (D : Cell) (fV fC : Field) (A : Cell) (o len : Nat) (r : Option Value) (s u : State) : Prop := r = none ∧ ∃ D' V : Cell, Blank "java/lang/String" a D' u ∧ Same D D' [fV.slot, fC.slot] ∧ D'.slots[fV.slot]? = some (.ref s.heap.size) ∧ D'.slots[fC.slot]? = some (.int 0) ∧ Arr .byte s.heap.size V u ∧ V.vm = .none ∧ u.vm.findClass "[B" = some V.cls ∧ V.slots.size = len ∧ (∀ j, j < len → V.slots[j]? = some (.int (lo8 (cv A (o + j))))) ∧ (∀ (y : Addr) (c : Cell), y ≠ a → s.heap[y]? = some c → u.heap[y]? = some c) ∧ u.heap.size = s.heap.size + 1
theorem Got.mv {a : Addr} {D A : Cell} {fV fC : Field} {o len : Nat} : ∀ r (U U' V V' : State), U'.heap = U.heap → V.vm.Alike V'.vm → V'.heap = V.heap → Got a D fV fC A o len r U V → Got a D fV fC A o len r U' V' :=
  fun r U U' V V' h1 hal h2 ⟨e0, D', X, a1, a2, a3, a4, a5, a6, a7, a8, a9, a10, a11⟩ => ⟨e0, D', X, a1.mv hal h2, a2, by rw [h1]; exact a3, a4, by rw [h1]; exact a5.mv hal h2, a6, by rw [hal.findClass]; exact a7, a8, a9, by rw [h1, h2]; exact a10, by rw [h1, h2]; exact a11⟩
namespace New4
def yN : MethodName := ⟨"java/lang/String", "<init>", "([CIILjava/lang/Void;)V"⟩
abbrev yB : ByteArray := jdk_42_method_149_code
theorem d0 : decode yB 0 = .ok (.aload_n 0, 1) := by decide +kernel
theorem d1 : decode yB 1 = .ok (.invokespecial 1, 3) := by decide +kernel
theorem d4 : decode yB 4 = .ok (.iload_n 3, 1) := by decide +kernel
theorem d5 : decode yB 5 = .ok (.ifCond (.ne) 22, 3) := by decide +kernel
theorem d27 : decode yB 27 = .ok (.getstatic 38, 3) := by decide +kernel
theorem d30 : decode yB 30 = .ok (.ifCond (.eq) 28, 3) := by decide +kernel
theorem d33 : decode yB 33 = .ok (.aload_n 1, 1) := by decide +kernel
theorem d34 : decode yB 34 = .ok (.iload_n 2, 1) := by decide +kernel
theorem d35 : decode yB 35 = .ok (.iload_n 3, 1) := by decide +kernel
theorem d36 : decode yB 36 = .ok (.invokestatic 177, 3) := by decide +kernel
theorem d39 : decode yB 39 = .ok (.astore 5, 2) := by decide +kernel
theorem d41 : decode yB 41 = .ok (.aload_n 0, 1) := by decide +kernel
theorem d42 : decode yB 42 = .ok (.aload 5, 2) := by decide +kernel
theorem d44 : decode yB 44 = .ok (.iload_n 3, 1) := by decide +kernel
theorem d45 : decode yB 45 = .ok (.invokestatic 47, 3) := by decide +kernel
theorem d48 : decode yB 48 = .ok (.putfield 15, 3) := by decide +kernel
theorem d51 : decode yB 51 = .ok (.aload_n 0, 1) := by decide +kernel
theorem d52 : decode yB 52 = .ok (.aload 5, 2) := by decide +kernel
theorem d54 : decode yB 54 = .ok (.putfield 9, 3) := by decide +kernel
theorem d57 : decode yB 57 = .ok (.return_, 1) := by decide +kernel
def site : List Cond := [.fieldLink "java/lang/String" 38 "java/lang/String" "COMPACT_STRINGS" "Z", Cmp3.tab, CodL.tab, .laysFinal "java/lang/String" "java/lang/String" "value" "[B", .fieldLink "java/lang/String" 9 "java/lang/String" "value" "[B", .laysFinal "java/lang/String" "java/lang/String" "coder" "B", .fieldLink "java/lang/String" 15 "java/lang/String" "coder" "B"] ++ objW "java/lang/String" 1 ++ staticW "java/lang/String" 177 Cmp3.yN ++ staticW "java/lang/String" 47 CodL.yN
def tab : Cond := tabOf yN yB 6 none site
def P (a : Addr) (D : Cell) (fV fC : Field) (b : Addr) (A : Cell) (z : Int32) (o len : Nat) (args : Array Value) (s : State) : Prop := args = #[.ref a, .ref b, .int (Int32.ofNat o), .int (Int32.ofNat len), .null] ∧ Blank "java/lang/String" a D s ∧ Found "java/lang/String" "value" "[B" fV s ∧ Found "java/lang/String" "coder" "B" fC s ∧ Ch b A s ∧ StaticIs s "java/lang/String" "COMPACT_STRINGS" "Z" (.int z) ∧ ¬ z = 0 ∧ 0 < len ∧ o + len ≤ A.slots.size ∧ len ≤ 536870912 ∧ ∀ i, i < len → ¬ 255 < cv A (o + i)
def E (a : Addr) (D : Cell) (fV fC : Field) (A : Cell) (o len : Nat) (r : Option Value) (s u : State) : Prop := Got a D fV fC A o len r s u
/-- len > 0, no char of the range above 255: a Latin-1 String of their low bytes -/
theorem law (l : Launch) (a : Addr) (D : Cell) (fV fC : Field) (b : Addr) (A : Cell) (z : Int32) (o len : Nat) : Law l yN 5 4 2 35 yB 6 none site (P a D fV fC b A z o len) (E a D fV fC A o len) [⟨a, fC.slot⟩, ⟨a, fV.slot⟩] 1 len := by
  refine Law.of_walk (plainFor_of_name (by decide +kernel)) (by decide +kernel) (by decide +kernel) (by decide) (fun _ _ h => by rw [h.1]; rfl) (fun _ U U' hal hh h => ⟨h.1, h.2.1.mv hal hh, h.2.2.1.al hal, h.2.2.2.1.al hal, h.2.2.2.2.1.mv hal hh, h.2.2.2.2.2.1.there hal hh, h.2.2.2.2.2.2⟩) (fun r U U' V V' h1 hal h2 h => Got.mv r U U' V V' h1 hal h2 h) ?_
  intro p e s m args below meth c s₁ X0 hexec hbytes hml hret hlk hnm hown hh0 W hP
  obtain ⟨rfl, hB, f1, f2, hA, s1, hz, l0, l1, l2, hp⟩ := hP
  have a31 := hA.1.2.2.2
  have c1 : Steps p.tables e below (s₁.setTop (entryFrame m #[.ref a, .ref b, .int (Int32.ofNat o), .int (Int32.ofNat len), .null] 6)) (s₁.setTop (mkF m 0 #[.val (.ref a), .val (.ref b), .val (.int (Int32.ofNat o)), .val (.int (Int32.ofNat len)), .val .null, .unset] [])) := entry rfl
  have c2 : Steps p.tables e below (s₁.setTop (entryFrame m #[.ref a, .ref b, .int (Int32.ofNat o), .int (Int32.ofNat len), .null] 6)) (s₁.setTop (mkF m 1 #[.val (.ref a), .val (.ref b), .val (.int (Int32.ofNat o)), .val (.int (Int32.ofNat len)), .val .null, .unset] [.ref a])) := c1.trans (by
    refine XS.aloadN X0.here hexec rfl (hb hbytes d0) rfl rfl ?_
    exact Steps.refl _)
  obtain ⟨T3, X3, q3, st3⟩ := X0.oinit hexec hown (wks W (objW "java/lang/String" 1)) (g := (mkF m 1 #[.val (.ref a), .val (.ref b), .val (.int (Int32.ofNat o)), .val (.int (Int32.ofNat len)), .val .null, .unset] [.ref a])) rfl (by rw [hml]; rfl) (rest := []) rfl (hb hbytes d1) (W := 0) (by show 2 * 0 + 0 ≤ _; decide) (Nat.le_of_ble_eq_true rfl) (Nat.le_of_ble_eq_true rfl)
  have hh3 := q3.trans hh0
  have c4 : Steps p.tables e below (s₁.setTop (entryFrame m #[.ref a, .ref b, .int (Int32.ofNat o), .int (Int32.ofNat len), .null] 6)) (T3.setTop (mkF m 27 #[.val (.ref a), .val (.ref b), .val (.int (Int32.ofNat o)), .val (.int (Int32.ofNat len)), .val .null, .unset] [])) := (c2.trans (st3 _ (Steps.refl _))).trans (by
    refine XS.iloadN X3.here hexec rfl (hb hbytes d4) rfl ?_
    refine XS.ifYes X3.here hexec rfl (pc0 := 5) rfl (hb hbytes d5) rfl (i0_ne_t (nz32 (by omega) l0)) (by decide) rfl ?_
    exact Steps.refl _)
  obtain ⟨T5, X5, q5, st5⟩ := X3.sget hexec hown (wk W (.fieldLink "java/lang/String" 38 "java/lang/String" "COMPACT_STRINGS" "Z")) s1 (fun _ _ h => by rw [hh3]; exact h) (g := (mkF m 27 #[.val (.ref a), .val (.ref b), .val (.int (Int32.ofNat o)), .val (.int (Int32.ofNat len)), .val .null, .unset] [])) rfl (hb hbytes d27)
  have hh5 := q5.trans hh3
  have c6 : Steps p.tables e below (s₁.setTop (entryFrame m #[.ref a, .ref b, .int (Int32.ofNat o), .int (Int32.ofNat len), .null] 6)) (T5.setTop (mkF m 30 #[.val (.ref a), .val (.ref b), .val (.int (Int32.ofNat o)), .val (.int (Int32.ofNat len)), .val .null, .unset] [.int z])) := c4.trans (st5 _ (Steps.refl _))
  have c7 : Steps p.tables e below (s₁.setTop (entryFrame m #[.ref a, .ref b, .int (Int32.ofNat o), .int (Int32.ofNat len), .null] 6)) (T5.setTop (mkF m 36 #[.val (.ref a), .val (.ref b), .val (.int (Int32.ofNat o)), .val (.int (Int32.ofNat len)), .val .null, .unset] [.int (Int32.ofNat len), .int (Int32.ofNat o), .ref b])) := c6.trans (by
    refine XS.ifNo X5.here hexec rfl (hb hbytes d30) rfl (i0_eq_f hz) ?_
    refine XS.aloadN X5.here hexec rfl (hb hbytes d33) rfl rfl ?_
    refine XS.iloadN X5.here hexec rfl (hb hbytes d34) rfl ?_
    refine XS.iloadN X5.here hexec rfl (hb hbytes d35) rfl ?_
    exact Steps.refl _)
  obtain ⟨v8, T8, X8, E8, g8⟩ := X5.callS hexec (Cmp3.law l b A o len) hown (wks W (staticW "java/lang/String" 177 Cmp3.yN)) (wk W Cmp3.tab) (W := 0) (Nat.le_of_ble_eq_true rfl) (Nat.le_of_ble_eq_true rfl) (Nat.le_refl _) (by show 0 + len ≤ len; omega) (g := (mkF m 36 #[.val (.ref a), .val (.ref b), .val (.int (Int32.ofNat o)), .val (.int (Int32.ofNat len)), .val .null, .unset] [.int (Int32.ofNat len), .int (Int32.ofNat o), .ref b])) rfl (by rw [hml]; rfl) c7 (argsL := [.ref b, .int (Int32.ofNat o), .int (Int32.ofNat len)]) (rest := []) rfl rfl (by show 2 * 0 + 0 ≤ _; decide) (hb hbytes d36) (⟨rfl, hA.mv X5.warmed.alike hh5, l1, l2, hp⟩)
  obtain ⟨e8, z8⟩ := E8
  obtain ⟨rfl, N, n1, n2, n3, n4, n5, n6⟩ := NewArr.mv _ T5 s _ _ hh5.symm (Vm.Alike.refl _) rfl e8
  rw [hh5] at z8
  have hB1 := hB.keep X8.warmed.alike (n6 _ _ hB.1)
  have hne : s.heap.size ≠ a := (Nat.ne_of_lt (Array.getElem?_eq_some_iff.mp hB.1).1).symm
  have c9 : Steps p.tables e below (s₁.setTop (entryFrame m #[.ref a, .ref b, .int (Int32.ofNat o), .int (Int32.ofNat len), .null] 6)) (T8.setTop (mkF m 39 #[.val (.ref a), .val (.ref b), .val (.int (Int32.ofNat o)), .val (.int (Int32.ofNat len)), .val .null, .unset] [.ref s.heap.size])) := g8
  have c10 : Steps p.tables e below (s₁.setTop (entryFrame m #[.ref a, .ref b, .int (Int32.ofNat o), .int (Int32.ofNat len), .null] 6)) (T8.setTop (mkF m 45 #[.val (.ref a), .val (.ref b), .val (.int (Int32.ofNat o)), .val (.int (Int32.ofNat len)), .val .null, .val (.ref s.heap.size)] [.int (Int32.ofNat N.slots.size), .ref s.heap.size, .ref a])) := by
    have hc : Steps p.tables e below (s₁.setTop (entryFrame m #[.ref a, .ref b, .int (Int32.ofNat o), .int (Int32.ofNat len), .null] 6)) (T8.setTop (mkF m 45 #[.val (.ref a), .val (.ref b), .val (.int (Int32.ofNat o)), .val (.int (Int32.ofNat len)), .val .null, .val (.ref s.heap.size)] [.int (Int32.ofNat len), .ref s.heap.size, .ref a])) := c9.trans (by
      refine XS.astore X8.here hexec rfl (hb hbytes d39) rfl rfl rfl ?_
      refine XS.aloadN X8.here hexec rfl (hb hbytes d41) rfl rfl ?_
      refine XS.aload X8.here hexec rfl (hb hbytes d42) rfl rfl ?_
      refine XS.iloadN X8.here hexec rfl (hb hbytes d44) rfl ?_
      exact Steps.refl _)
    rw [n4]; exact hc
  obtain ⟨v11, T11, X11, E11, g11⟩ := X8.callS hexec (CodL.law l s.heap.size N) hown (wks W (staticW "java/lang/String" 47 CodL.yN)) (wk W CodL.tab) (W := 1) (Nat.le_of_ble_eq_true rfl) (Nat.le_of_ble_eq_true rfl) (Nat.le_refl _) (by show 0 + len + 0 ≤ len; omega) (g := (mkF m 45 #[.val (.ref a), .val (.ref b), .val (.int (Int32.ofNat o)), .val (.int (Int32.ofNat len)), .val .null, .val (.ref s.heap.size)] [.int (Int32.ofNat N.slots.size), .ref s.heap.size, .ref a])) rfl (by rw [hml]; rfl) c10 (argsL := [.ref s.heap.size, .int (Int32.ofNat N.slots.size)]) (rest := [.ref a]) rfl rfl (by show 2 * 0 + (1 + 0) ≤ _; decide) (hb hbytes d45) (⟨rfl, n1⟩)
  obtain ⟨rfl, q11⟩ := E11
  have hB11 := hB1.mv (X8.warmed.alike.symm.trans X11.warmed.alike) q11
  have c12 : Steps p.tables e below (s₁.setTop (entryFrame m #[.ref a, .ref b, .int (Int32.ofNat o), .int (Int32.ofNat len), .null] 6)) (T11.setTop (mkF m 48 #[.val (.ref a), .val (.ref b), .val (.int (Int32.ofNat o)), .val (.int (Int32.ofNat len)), .val .null, .val (.ref s.heap.size)] [.int 0, .ref a])) := g11
  obtain ⟨T13, X13, p13, bl13, sl13, st13⟩ := X11.finit hexec hown (wk W (.fieldLink "java/lang/String" 15 "java/lang/String" "coder" "B")) (Or.inr ⟨_, (wk W (.laysFinal "java/lang/String" "java/lang/String" "coder" "B"))⟩) (Or.inl ⟨rfl, hnm⟩) f2 (Or.inl rfl) hB11 (t := .byte) (by decide +kernel) rfl (g := (mkF m 48 #[.val (.ref a), .val (.ref b), .val (.int (Int32.ofNat o)), .val (.int (Int32.ofNat len)), .val .null, .val (.ref s.heap.size)] [.int 0, .ref a])) rfl (rest := []) rfl (hb hbytes d48)
  have c14 : Steps p.tables e below (s₁.setTop (entryFrame m #[.ref a, .ref b, .int (Int32.ofNat o), .int (Int32.ofNat len), .null] 6)) (T13.setTop (mkF m 54 #[.val (.ref a), .val (.ref b), .val (.int (Int32.ofNat o)), .val (.int (Int32.ofNat len)), .val .null, .val (.ref s.heap.size)] [.ref s.heap.size, .ref a])) := (c12.trans (st13 _ (Steps.refl _))).trans (by
    refine XS.aloadN X13.here hexec rfl (hb hbytes d51) rfl rfl ?_
    refine XS.aload X13.here hexec rfl (hb hbytes d52) rfl rfl ?_
    exact Steps.refl _)
  obtain ⟨T15, X15, p15, bl15, sl15, st15⟩ := X13.finit hexec hown (wk W (.fieldLink "java/lang/String" 9 "java/lang/String" "value" "[B")) (Or.inr ⟨_, (wk W (.laysFinal "java/lang/String" "java/lang/String" "value" "[B"))⟩) (Or.inl ⟨rfl, hnm⟩) f1 (Or.inl rfl) bl13 (t := (.array .byte)) (by decide +kernel) rfl (g := (mkF m 54 #[.val (.ref a), .val (.ref b), .val (.int (Int32.ofNat o)), .val (.int (Int32.ofNat len)), .val .null, .val (.ref s.heap.size)] [.ref s.heap.size, .ref a])) rfl (rest := []) rfl (hb hbytes d54)
  have c16 : Steps p.tables e below (s₁.setTop (entryFrame m #[.ref a, .ref b, .int (Int32.ofNat o), .int (Int32.ofNat len), .null] 6)) (T15.setTop (mkF m 57 #[.val (.ref a), .val (.ref b), .val (.int (Int32.ofNat o)), .val (.int (Int32.ofNat len)), .val .null, .val (.ref s.heap.size)] [])) := c14.trans (st15 _ (Steps.refl _))
  have ap := apart (Or.inr ⟨_, (wk W (.laysFinal "java/lang/String" "java/lang/String" "value" "[B"))⟩) (Or.inr ⟨_, (wk W (.laysFinal "java/lang/String" "java/lang/String" "coder" "B"))⟩) f1 f2 (t₁ := .array .byte) (t₂ := .byte) (by decide +kernel) (by decide +kernel) (by decide)
  have al := X8.warmed.alike.symm.trans X15.warmed.alike
  have n7 : T11.heap[s.heap.size]? = some N := by rw [q11]; exact n1.1
  exact ⟨T15, none, _, _, _, X15, by simp, rfl, by omega, (fun _ => rfl), ⟨rfl, _, N, bl15, ((Same.refl D _).set _ (by simp)).set _ (by simp), sl15, (Cell.slots_setSlot_ne _ ap).trans sl13, n1.keep al (p15.other hne (p13.other hne n7)), n2, by rw [al.findClass]; exact n3, n4, n5, fun y c h1 h2 => p15.other h1 (p13.other h1 (by rw [q11]; exact n6 y c h2)), by rw [p15.2.2, p13.2.2, q11]; exact z8⟩, fun fs hl => c16.trans (X15.returnOut hexec hret (hb hbytes d57) hl)⟩
end New4
namespace New1
def yN : MethodName := ⟨"java/lang/String", "<init>", "([C)V"⟩
abbrev yB : ByteArray := jdk_42_method_3_code
theorem d0 : decode yB 0 = .ok (.aload_n 0, 1) := by decide +kernel
theorem d1 : decode yB 1 = .ok (.aload_n 1, 1) := by decide +kernel
theorem d2 : decode yB 2 = .ok (.iconst 0, 1) := by decide +kernel
theorem d3 : decode yB 3 = .ok (.aload_n 1, 1) := by decide +kernel
theorem d4 : decode yB 4 = .ok (.arraylength, 1) := by decide +kernel
theorem d5 : decode yB 5 = .ok (.aconst_null, 1) := by decide +kernel
theorem d6 : decode yB 6 = .ok (.invokespecial 27, 3) := by decide +kernel
theorem d9 : decode yB 9 = .ok (.return_, 1) := by decide +kernel
def site : List Cond := [New4.tab] ++ initW "java/lang/String" 27 New4.yN
def tab : Cond := tabOf yN yB 2 none site
def P (a : Addr) (D : Cell) (fV fC : Field) (b : Addr) (A : Cell) (z : Int32) (args : Array Value) (s : State) : Prop := args = #[.ref a, .ref b] ∧ Blank "java/lang/String" a D s ∧ Found "java/lang/String" "value" "[B" fV s ∧ Found "java/lang/String" "coder" "B" fC s ∧ Ch b A s ∧ StaticIs s "java/lang/String" "COMPACT_STRINGS" "Z" (.int z) ∧ ¬ z = 0 ∧ 0 < A.slots.size ∧ A.slots.size ≤ 536870912 ∧ ∀ i, i < A.slots.size → ¬ 255 < cv A i
def E (a : Addr) (D : Cell) (fV fC : Field) (A : Cell) (r : Option Value) (s u : State) : Prop := Got a D fV fC A 0 A.slots.size r s u
/-- new String(chars), not empty, no char above 255: a Latin-1 String of their low bytes -/
theorem law (l : Launch) (a : Addr) (D : Cell) (fV fC : Field) (b : Addr) (A : Cell) (z : Int32) : Law l yN 2 1 3 52 yB 2 none site (P a D fV fC b A z) (E a D fV fC A) [⟨a, fC.slot⟩, ⟨a, fV.slot⟩] 1 A.slots.size := by
  refine Law.of_walk (plainFor_of_name (by decide +kernel)) (by decide +kernel) (by decide +kernel) (by decide) (fun _ _ h => by rw [h.1]; rfl) (fun _ U U' hal hh h => ⟨h.1, h.2.1.mv hal hh, h.2.2.1.al hal, h.2.2.2.1.al hal, h.2.2.2.2.1.mv hal hh, h.2.2.2.2.2.1.there hal hh, h.2.2.2.2.2.2⟩) (fun r U U' V V' h1 hal h2 h => Got.mv r U U' V V' h1 hal h2 h) ?_
  intro p e s m args below meth c s₁ X0 hexec hbytes hml hret hlk hnm hown hh0 W hP
  obtain ⟨rfl, hB, f1, f2, hA, s1, hz, l0, l2, hp⟩ := hP
  have c1 : Steps p.tables e below (s₁.setTop (entryFrame m #[.ref a, .ref b] 2)) (s₁.setTop (mkF m 0 #[.val (.ref a), .val (.ref b)] [])) := entry rfl
  have c2 : Steps p.tables e below (s₁.setTop (entryFrame m #[.ref a, .ref b] 2)) (s₁.setTop (mkF m 6 #[.val (.ref a), .val (.ref b)] [.null, .int (Int32.ofNat A.slots.size), .int 0, .ref b, .ref a])) := c1.trans (by
    refine XS.aloadN X0.here hexec rfl (hb hbytes d0) rfl rfl ?_
    refine XS.aloadN X0.here hexec rfl (hb hbytes d1) rfl rfl ?_
    refine iconstV X0.here hexec rfl 0 (hb hbytes d2) (by decide) ?_
    refine XS.aloadN X0.here hexec rfl (hb hbytes d3) rfl rfl ?_
    refine X0.alen hexec (hA.1.mv X0.warmed.alike hh0) rfl rfl (hb hbytes d4) ?_
    refine XS.aconstNull X0.here hexec rfl (hb hbytes d5) ?_
    exact Steps.refl _)
  obtain ⟨v3, T3, X3, E3, g3⟩ := X0.callN hexec (New4.law l a D fV fC b A z 0 A.slots.size) rfl hown (wks W (initW "java/lang/String" 27 New4.yN)) (W New4.tab (by simp only [site, List.mem_cons, List.mem_append, true_or, or_true])) (W := 0) (Nat.le_of_ble_eq_true rfl) (Nat.le_of_ble_eq_true rfl) (Nat.le_refl _) (by show 0 + A.slots.size ≤ A.slots.size; omega) (g := (mkF m 6 #[.val (.ref a), .val (.ref b)] [.null, .int (Int32.ofNat A.slots.size), .int (Int32.ofNat 0), .ref b, .ref a])) rfl (by rw [hml]; rfl) c2 (argsL := [.ref b, .int (Int32.ofNat 0), .int (Int32.ofNat A.slots.size), .null]) (rest := []) rfl rfl (by show 2 * 0 + 0 ≤ _; decide) (hb hbytes d6) (⟨rfl, hB.mv X0.warmed.alike hh0, f1.al X0.warmed.alike, f2.al X0.warmed.alike, hA.mv X0.warmed.alike hh0, s1.there X0.warmed.alike hh0, hz, l0, by omega, l2, fun i hi => by rw [Nat.zero_add]; exact hp i hi⟩)
  have e0 := Got.mv _ s₁ s _ _ hh0.symm (Vm.Alike.refl _) rfl E3
  obtain rfl := e0.1
  have c4 : Steps p.tables e below (s₁.setTop (entryFrame m #[.ref a, .ref b] 2)) (T3.setTop (mkF m 9 #[.val (.ref a), .val (.ref b)] [])) := g3
  exact ⟨T3, none, _, _, _, X3, by simp, rfl, by omega, (fun _ => rfl), e0, fun fs hl => c4.trans (X3.returnOut hexec hret (hb hbytes d9) hl)⟩
theorem pays {l : Launch} {R : Room} {p : Program} {e : Env} {below : List Frame} {s : State} {sargs : Array Value} {len W : Nat} (a : Addr) (D : Cell) (fV fC : Field) (b : Addr) (A : Cell) (z : Int32) (htab : tab.before sargs s = true) (hfr : 4 ≤ R.frames) (hlo : W + 65 ≤ R.locals) :
    Back l R p e below s sargs yN len W (fun A₁ a₁ => A₁.cells + 1 ≤ R.cells ∧ A₁.slots + A.slots.size ≤ R.slots ∧ P a D fV fC b A z a₁ A₁.U) (fun A₁ _ v₁ B₁ => E a D fV fC A v₁ A₁.U B₁.U ∧ B₁.locs = A₁.locs ++ [⟨a, fC.slot⟩, ⟨a, fV.slot⟩] ∧ B₁.cells = A₁.cells + 1 ∧ B₁.slots = A₁.slots + A.slots.size) :=
  (law l a D fV fC b A z).pays htab hfr (by omega)
end New1
end StrChars
namespace StrChars.Road
open Jvm Sem ClassFile Op Lib Jvm.Stand Jvm.Free Jvm.Free.XT
open Jvm.Lib.Cold (StaticIs)
abbrev ST : String := "java/lang/String"
/-- every table word that New1's law asks, flat -/
abbrev words : List Jvm.Cond := [.code New1.yN New1.yB 2 none, .initialized ST, .methodLink ST 27 New4.yN, .instanceMethod New4.yN,
  .code New4.yN New4.yB 6 none, .fieldLink ST 38 ST "COMPACT_STRINGS" "Z", .laysFinal ST ST "value" "[B", .fieldLink ST 9 ST "value" "[B", .laysFinal ST ST "coder" "B", .fieldLink ST 15 ST "coder" "B",
  .methodLink ST 1 Lib.objectInit, .instanceMethod Lib.objectInit, .code Lib.objectInit ⟨#[0xb1]⟩ 1 none, .methodLink ST 177 Cmp3.yN, .static Cmp3.yN, .methodLink ST 47 CodL.yN, .static CodL.yN,
  .code Cmp3.yN Cmp3.yB 6 (some (.array .byte)), .initialized U16, .arrayClass .byte, .methodLink U16 115 Cmp5.yN, .static Cmp5.yN, .code Cmp5.yN Cmp5.yB 7 (some .int), .code CodL.yN CodL.yB 2 (some .byte)]
theorem tab_of {a : Array Value} {s : State} (h : ∀ w ∈ words, w.before a s = true) : New1.tab.before a s = true := by
  have h5 : Cmp5.tab.before a s = true := unparts (wk h (.code Cmp5.yN Cmp5.yB 7 (some .int))) (wks h (.initialized Cmp5.yN.cls :: Cmp5.site))
  have hc : CodL.tab.before a s = true := unparts (wk h (.code CodL.yN CodL.yB 2 (some .byte))) (wks h (.initialized CodL.yN.cls :: CodL.site))
  have q5 : ∀ w ∈ Cmp5.tab :: words, w.before a s = true := fun w hw => (List.mem_cons.mp hw).elim (fun e => e ▸ h5) (h w)
  have h3 : Cmp3.tab.before a s = true := unparts (wk q5 (.code Cmp3.yN Cmp3.yB 6 (some (.array .byte)))) (wks q5 (.initialized Cmp3.yN.cls :: Cmp3.site))
  have q3 : ∀ w ∈ Cmp3.tab :: CodL.tab :: words, w.before a s = true := fun w hw => (List.mem_cons.mp hw).elim (fun e => e ▸ h3) fun hw => (List.mem_cons.mp hw).elim (fun e => e ▸ hc) (h w)
  have h4 : New4.tab.before a s = true := unparts (wk q3 (.code New4.yN New4.yB 6 none)) (wks q3 (.initialized New4.yN.cls :: New4.site))
  have q4 : ∀ w ∈ New4.tab :: words, w.before a s = true := fun w hw => (List.mem_cons.mp hw).elim (fun e => e ▸ h4) (h w)
  exact unparts (wk q4 (.code New1.yN New1.yB 2 none)) (wks q4 (.initialized New1.yN.cls :: New1.site))
/-- the words ride from the start Z to the walk's own state -/
theorem moved {Z s : State} {a0 args : Array Value} (hZ : Z.Warmed39 s.vm) (hw : ∀ d ∈ words, d.before a0 Z = true) : ∀ d ∈ words, d.before args s = true := fun d hd => by
  have q := hw d hd
  have t : ∀ d ∈ words, d = .arrayClass .byte ∨ (d.onTables && d.keepsFace) = true := by decide +kernel
  rcases t d hd with rfl | t
  · exact RoadKit.mvA hZ q
  · exact RoadKit.mv hZ q t
/-- WHAT COMES BACK, over the tables of the start Z: h the heap at the call, h' behind it -/
def Q (Z : State) (x : Addr) (A : Cell) (h : Heap) (v : Option Value) (h' : Heap) (L : List Loc) : Prop := v = none ∧ (∀ y ∈ L, y.base = x) ∧ RoadKit.Keep h h' [x] ∧ h'.size = h.size + 1 ∧ RoadKit.Exa Z h' x ST ∧ RoadKit.Fld Z h' x ST "value" "[B" (.ref h.size) ∧ RoadKit.Fld Z h' x ST "coder" "B" (.int 0) ∧
  (∃ V : Cell, RoadKit.Arr Z h' h.size V .byte ∧ V.vm = .none ∧ Z.vm.findClass "[B" = some V.cls ∧ V.slots.size = A.slots.size ∧ ∀ j, j < A.slots.size → V.slots[j]? = some (.int (lo8 (cv A j)))) ∧
  ∀ (O n d : String) (w : Value), RoadKit.Fld Z h x O n d w → RoadKit.slotOf Z O n d ≠ RoadKit.slotOf Z ST "value" "[B" → RoadKit.slotOf Z O n d ≠ RoadKit.slotOf Z ST "coder" "B" → RoadKit.Fld Z h' x O n d w
/-- **new String(chars) AT A CALL, IN THE ROAD'S FORM**: for specialBack behind newO: x the fresh String, b the char[] with the cell A -/
theorem back {p : Program} {l : Launch} {e : Env} {R : Room} {s : State} {args : Array Value} {below : List Frame} {len W : Nat} {Z : State} {a0 : Array Value} {h : Heap} (hZ : Z.Warmed39 s.vm) (hw : ∀ d ∈ words, d.before a0 Z = true) {kI : Nat} (wi : (Jvm.Cond.instantiable ST kI).before a0 Z = true)
    {x b : Addr} {A : Cell} {z : Int32} {v0 c0 : Value} (E : RoadKit.Exa Z h x ST) (V : RoadKit.Fld Z h x ST "value" "[B" v0) (C : RoadKit.Fld Z h x ST "coder" "B" c0) (K : RoadKit.Arr Z h b A .char) (hty : Typed .char A) (S : RoadKit.Sta Z h ST "COMPACT_STRINGS" "Z" (.int z)) (hz : ¬ z = 0)
    (l0 : 0 < A.slots.size) (l2 : A.slots.size ≤ 536870912) (hp : ∀ i, i < A.slots.size → ¬ 255 < cv A i) (hfr : 4 ≤ R.frames) (hlo : W + 65 ≤ R.locals) :
    Back l R p e below s args New1.yN len W (fun P a => a = #[.ref x, .ref b] ∧ P.U.heap = h ∧ P.cells + 1 ≤ R.cells ∧ P.slots + A.slots.size ≤ R.slots)
      (fun P _ v B => ∃ L, Q Z x A h v B.U.heap L ∧ B.locs = P.locs ++ L ∧ B.cells = P.cells + 1 ∧ B.slots = P.slots + A.slots.size) := by
  intro m meth c P g ig mk a X hg hsize hdg hW hn hp'
  obtain ⟨rfl, rfl, r1, r2⟩ := hp'
  have al : Z.vm.Alike P.U.vm := hZ.alike.trans X.warmed.alike
  obtain ⟨D, cfV, kV, iV, fV, hD, gV, stV, knV, obV, asV, slV⟩ := id V
  obtain ⟨D', cfC, kC, iC, fC, hD', gC, stC, -, -, asC, slC⟩ := id C
  cases hD.symm.trans hD'
  obtain ⟨D2, kD, e1, e2, e3, e4, e5⟩ := id E
  cases hD.symm.trans e1
  obtain ⟨c2, k2, i1, i2, i3, -⟩ := Cond.instantiable_spec wi
  cases e2.symm.trans i1
  cases e3.symm.trans i2
  obtain ⟨kU, u1, u2⟩ := al.2.2 _ _ e3
  have hB : Blank ST x D P.U := ⟨hD, ⟨knV, fun q hq => by rw [hq] at obV; cases obV⟩, by rw [al.findClass]; exact e2, kU, u1, by rw [u2]; exact i3, by rw [u2]; exact e5 i3⟩
  have F1 : Found ST "value" "[B" fV P.U := ⟨SBG.found_only al ⟨cfV, kV, iV, gV⟩, stV⟩
  have F2 : Found ST "coder" "B" fC P.U := ⟨SBG.found_only al ⟨cfC, kC, iC, gC⟩, stC⟩
  have hA : Ch b A P.U := ⟨⟨K.1, State.isArrayOf_alike al K.2.1, K.2.2, by omega⟩, hty⟩
  have hS : StaticIs P.U ST "COMPACT_STRINGS" "Z" (.int z) := by
    obtain ⟨cfS, iS, kS, fS, st, cS, t1, t2, t3, t4, t5, t6, t7⟩ := S
    exact StaticIs.there (s := { Z with heap := P.U.heap }) ⟨cfS, iS, kS, fS, st, cS, t1, t2, t3, t4, t5, (fun q => by rw [q] at t6; cases t6), t7⟩ al rfl
  obtain ⟨v, B, X', ⟨⟨hv, E', V', q1, q2, q3, q4, q5, q6, q7, q8, q9, q10, q11⟩, hl, hc, hs⟩, st⟩ := New1.pays x D fV fC b A z (tab_of (moved hZ hw)) hfr hlo m meth c P g ig mk _ X hg hsize hdg hW hn ⟨r1, r2, rfl, hB, F1, F2, hA, hS, hz, l0, l2, hp⟩
  have al' : Z.vm.Alike B.U.vm := hZ.alike.trans X'.warmed.alike
  have hsz : E'.slots.size = D.slots.size := by
    obtain ⟨-, -, -, kB, w1, w2, w3⟩ := q1
    obtain ⟨kB', y1, y2⟩ := al'.2.2 _ _ e3
    rw [q2.2.1] at w1
    cases w1.symm.trans y1
    rw [w3, e5 i3, y2]
  refine ⟨v, B, X', ⟨_, ⟨hv, ?_, ⟨by omega, fun y cy hy hn' => q10 y cy (by simpa using hn') hy, fun y cy hy => ?_⟩, q11, ⟨E', _, q1.1, by rw [q2.2.1]; exact e2, by rw [q2.2.1]; exact e3, by rw [q2.1]; exact obV, fun _ => by rw [hsz]; exact e5 i3⟩,
    ⟨E', cfV, kV, iV, fV, q1.1, gV, stV, by rw [q2.1]; exact knV, by rw [q2.1]; exact obV, by rw [q2.2.1]; exact asV, q3⟩, ⟨E', cfC, kC, iC, fC, q1.1, gC, stC, by rw [q2.1]; exact knV, by rw [q2.1]; exact obV, by rw [q2.2.1]; exact asC, q4⟩,
    ⟨V', ⟨q5.1, State.isArrayOf_alike al'.symm q5.2.1, q5.2.2.1⟩, q6, by rw [← al'.findClass]; exact q7, q8, fun j hj => by have := q9 j hj; rwa [Nat.zero_add] at this⟩, fun O n d w F n1 n2 => ?_⟩, hl, hc, hs⟩, st⟩
  · intro y hy
    simp only [List.mem_cons, List.not_mem_nil, or_false] at hy
    rcases hy with rfl | rfl <;> rfl
  · by_cases q : y = x
    · subst q
      cases hD.symm.trans hy
      exact ⟨E', q1.1, q2.2.1, q2.1, hsz⟩
    · exact ⟨cy, q10 y cy q hy, rfl, rfl, rfl⟩
  · obtain ⟨D3, cf, k, i, f, g1, g2, g3, g4, g5, g6, g7⟩ := F
    cases hD.symm.trans g1
    simp only [RoadKit.slotOf, g2, gV, gC, Option.map_some, Option.getD_some] at n1 n2
    exact ⟨E', cf, k, i, f, q1.1, g2, g3, by rw [q2.1]; exact g4, by rw [q2.1]; exact g5, by rw [q2.2.1]; exact g6, by rw [q2.2.2 f.slot (by simp [n1, n2])]; exact g7⟩
end StrChars.Road
namespace StrChars.Road
open Jvm Sem ClassFile Op Lib Jvm.Stand Jvm.Free Jvm.Free.XT
/-- WHAT COMES BACK, the byte[] as a list of values -/
def QA (Z : State) (x : Addr) (zn : Int32) (cs : List Int32) (h : Heap) (v : Option Value) (h' : Heap) (L : List Loc) : Prop := v = none ∧ (∀ y ∈ L, y.base = x) ∧ RoadKit.Keep h h' [x] ∧ h'.size = h.size + 1 ∧ RoadKit.Exa Z h' x ST ∧ RoadKit.Fld Z h' x ST "value" "[B" (.ref h.size) ∧ RoadKit.Fld Z h' x ST "coder" "B" (.int 0) ∧
  (∃ kb, Z.vm.findClass "[B" = some kb ∧ RoadKit.Arv Z h' h.size kb .byte zn (cs.map fun c => .int (lo8 c)) (.int 0)) ∧
  ∀ (O n d : String) (w : Value), RoadKit.Fld Z h x O n d w → RoadKit.slotOf Z O n d ≠ RoadKit.slotOf Z ST "value" "[B" → RoadKit.slotOf Z O n d ≠ RoadKit.slotOf Z ST "coder" "B" → RoadKit.Fld Z h' x O n d w
/-- **new String(chars) AT A CALL, THE ARRAYS AS LISTS**: the char[] at b holds cs, not empty, no char above 255 -/
theorem backArv {p : Program} {l : Launch} {e : Env} {R : Room} {s : State} {args : Array Value} {below : List Frame} {len W : Nat} {Z : State} {a0 : Array Value} {h : Heap} (hZ : Z.Warmed39 s.vm) (hw : ∀ d ∈ words, d.before a0 Z = true) {kI : Nat} (wi : (Jvm.Cond.instantiable ST kI).before a0 Z = true)
    {x b : Addr} {k : ClassId} {zn z : Int32} {cs : List Int32} {dv v0 c0 : Value} (E : RoadKit.Exa Z h x ST) (V : RoadKit.Fld Z h x ST "value" "[B" v0) (C : RoadKit.Fld Z h x ST "coder" "B" c0) (K : RoadKit.Arv Z h b k .char zn (cs.map Value.int) dv) (S : RoadKit.Sta Z h ST "COMPACT_STRINGS" "Z" (.int z)) (hz : ¬ z = 0)
    (hlen : zn.toNatClampNeg = cs.length) (h0 : 0 < cs.length) (hbig : cs.length ≤ 536870912) (hall : ∀ c ∈ cs, ¬ 255 < c) (hfr : 4 ≤ R.frames) (hlo : W + 65 ≤ R.locals) :
    Back l R p e below s args New1.yN len W (fun P a => a = #[.ref x, .ref b] ∧ P.U.heap = h ∧ P.cells + 1 ≤ R.cells ∧ P.slots + cs.length ≤ R.slots)
      (fun P _ v B => ∃ L, QA Z x zn cs h v B.U.heap L ∧ B.locs = P.locs ++ L ∧ B.cells = P.cells + 1 ∧ B.slots = P.slots + cs.length) := by
  obtain ⟨A, K1, K2, K3, K4, K5, K6⟩ := K
  have e : A.slots.size = cs.length := K3.trans hlen
  have hat : ∀ (i : Nat) (hi : i < cs.length), A.slots[i]? = some (.int cs[i]) := fun i hi => by rw [K5 i (by omega)]; simp [List.getD_eq_getElem?_getD, hi]
  have hcv : ∀ (i : Nat) (hi : i < cs.length), cv A i = cs[i] := fun i hi => by unfold cv; rw [hat i hi]
  have hty : Typed .char A := fun i v hv => by
    have hi : i < A.slots.size := (Array.getElem?_eq_some_iff.mp hv).1
    have q := K5 i hi
    rw [hv] at q
    rw [Option.some.inj q]
    exact K6 i hi
  refine Back.mono (back hZ hw wi E V C K1 hty S hz (by omega) (by omega) (fun i hi => by rw [hcv i (by omega)]; exact hall _ (List.getElem_mem _)) hfr hlo) (fun P a hp => ⟨hp.1, hp.2.1, hp.2.2.1, by rw [e]; exact hp.2.2.2⟩) (fun P a v B hp hq => ?_)
  obtain ⟨L, ⟨q1, q2, q3, q4, q5, q6, q7, ⟨V', v1, v2, v3, v4, v5⟩, q9⟩, hl, hc, hs⟩ := hq
  refine ⟨L, ⟨q1, q2, q3, q4, q5, q6, q7, ⟨V'.cls, v3, V', v1, rfl, by rw [v4, e, hlen], K4, fun i hi => ?_, fun i hi => ?_⟩, q9⟩, hl, hc, by rw [hs, e]⟩
  · have hi' : i < cs.length := by omega
    rw [v5 i (by omega), hcv i hi']; simp [List.getD_eq_getElem?_getD, hi']
  · have hi' : i < cs.length := by omega
    simp only [List.getD_eq_getElem?_getD, List.getElem?_map, List.getElem?_eq_getElem hi', Option.map_some, Option.getD_some]
    exact fits_lo8 _
end StrChars.Road
namespace StrChars.Road
open Jvm Sem ClassFile Op Lib Jvm.Stand Jvm.Free Jvm.Free.XT
/-- WHAT COMES BACK, in the writer's own shape -/
def QV (Z : State) (x : Addr) (N : Int32) (bs : List Int32) (h : Heap) (n0 : Nat) (v : Option Value) (h' : Heap) (L : List Loc) : Prop := v = none ∧ RoadKit.Fr n0 L ∧ RoadKit.Keep h h' [x] ∧ RoadKit.Exa Z h' x ST ∧ RoadKit.Fld Z h' x ST "coder" "B" (.int 0) ∧
  ∃ (t : Addr) (kb : ClassId), n0 ≤ t ∧ h.size ≤ t ∧ ¬ t = x ∧ RoadKit.Fld Z h' x ST "value" "[B" (.ref t) ∧ RoadKit.Arv Z h' t kb .byte N (bs.map Value.int) (.int 0)
/-- **new String(chars) AT A CALL, FOR THE WRITER**: a char[] of n known ints, each 0 to 255 -/
theorem backV {p : Program} {l : Launch} {e : Env} {R : Room} {s : State} {args : Array Value} {below : List Frame} {len W : Nat} {Z : State} {a0 : Array Value} {h : Heap} (hZ : Z.Warmed39 s.vm) (hw : ∀ d ∈ words, d.before a0 Z = true) {kI : Nat} (wi : (Jvm.Cond.instantiable ST kI).before a0 Z = true)
    {x b : Addr} {kC : ClassId} {cs bs : List Int32} {d v0 c0 : Value} {z N : Int32} {n n0 : Nat} (hx0 : n0 ≤ x) (hh0 : n0 ≤ h.size) (E : RoadKit.Exa Z h x ST) (V : RoadKit.Fld Z h x ST "value" "[B" v0) (C : RoadKit.Fld Z h x ST "coder" "B" c0) (K : RoadKit.Arv Z h b kC .char N (cs.map Value.int) d) (S : RoadKit.Sta Z h ST "COMPACT_STRINGS" "Z" (.int z)) (hz : ¬ z = 0)
    (hn : cs.length = n) (hN : N = Int32.ofNat n) (l0 : 0 < n) (l2 : n ≤ 4000) (hp : ∀ c ∈ cs, ¬ c < 0 ∧ ¬ (255 : Int32) < c) (hb : bs = cs.map (fun c => c.toInt8.toInt32)) (hfr : 4 ≤ R.frames) (hlo : W + 65 ≤ R.locals) :
    Back l R p e below s args (⟨"java/lang/String", "<init>", "([C)V"⟩ : MethodName) len W (fun P a => a = #[.ref x, .ref b] ∧ P.U.heap = h ∧ P.cells + 1 ≤ R.cells ∧ P.slots + n ≤ R.slots)
      (fun P _ v B => ∃ L, QV Z x N bs h n0 v B.U.heap L ∧ B.locs = P.locs ++ L ∧ B.cells = P.cells + 1 ∧ B.slots = P.slots + n) := by
  subst hn hN hb
  refine Back.mono (backArv hZ hw wi E V C K S hz (n32 (by omega)) l0 (by omega) (fun c hc => (hp c hc).2) hfr hlo) (fun P a hp => hp) (fun P a v B hp hq => ?_)
  obtain ⟨L, ⟨q1, q2, q3, q4, q5, q6, q7, ⟨kb, v1, v2⟩, q9⟩, hl, hc, hs⟩ := hq
  exact ⟨L, ⟨q1, fun y hy => by rw [q2 y hy]; exact hx0, q3, q5, q7, h.size, kb, hh0, Nat.le_refl _, Nat.ne_of_gt E.lt, q6, by rw [List.map_map]; exact v2⟩, hl, hc, hs⟩
end StrChars.Road
end Jvm.Pilot.@@N@@
namespace Jvm.Pilot.@@N@@
open Jvm Jvm.ClassFile Sem Op Lib Jvm.Free Jvm.Stand Jvm.LawKit Jvm.RoadKit Bundle Jvm.Pilot.@@N@@.Jvm.D
theorem own_cat {v : Value} (h : v.isRef = true) : v.category = 1 := by cases v <;> first | rfl | (simp [Value.isRef] at h)
theorem own_nar {v : Value} {t : FieldType} (ht : t.isReference = true) (h : v.isRef = true) : narrow t v = v := by
  rcases ref_cases h with rfl | ⟨a, rfl⟩ <;> cases t <;> first | rfl | (simp [FieldType.isReference] at ht)
theorem own_fits {v : Value} {t : FieldType} (ht : t.isReference = true) (h : v.isRef = true) : fits t v = true := by
  rcases ref_cases h with rfl | ⟨a, rfl⟩ <;> cases t <;> first | rfl | (simp [FieldType.isReference] at ht)
theorem own_store {l l' : Array Slot} {i : Nat} {v : Value} {o : Slot} (hold : l[i]? = some o) (ho : o = .unset ∨ ∃ w, o = .val w ∧ w.category = 1) (hv : v.category = 1) (e : l.setIfInBounds i (.val v) = l') : storeLocals l i v = some l' := by
  rw [Jvm.Free.XS.store1 hold ho hv, e]
def Glob (Z : State) (a0 : Array Value) (G1 : Int32) : Prop := (∀ d ∈ tables_1, d.before a0 Z = true) ∧ (Sta Z Z.heap "java/lang/String" "COMPACT_STRINGS" "Z" (.int G1)) ∧ (¬ (G1 = (0 : Int32)))
theorem own_hws {Z : State} {a0 : Array Value} (hw : ∀ d ∈ tables_1, d.before a0 Z = true) : ∀ d ∈ StrChars.Road.words, d.before a0 Z = true := fun d hd => hw d ((by decide +kernel : ∀ d ∈ StrChars.Road.words, d ∈ tables_1) d hd)
theorem own_char255 (x : Int32) : ¬ nar .char ((x &&& (255 : Int32)).toUInt32.toUInt16.toUInt32.toInt32) < 0 ∧ ¬ (255 : Int32) < nar .char ((x &&& (255 : Int32)).toUInt32.toUInt16.toUInt32.toInt32) := by
  have t : ∀ k : Fin 256, ¬ nar .char ((Int32.ofNat k.val).toUInt32.toUInt16.toUInt32.toInt32) < 0 ∧ ¬ (255 : Int32) < nar .char ((Int32.ofNat k.val).toUInt32.toUInt16.toUInt32.toInt32) := by decide +kernel
  have h : (x &&& 255).toBitVec.toNat < 256 := by
    simp only [Int32.toBitVec_and, BitVec.toNat_and]
    exact Nat.lt_succ_of_le Nat.and_le_right
  have e : (x &&& 255) = Int32.ofNat (x &&& 255).toBitVec.toNat := by
    apply Int32.toBitVec_inj.mp
    show _ = BitVec.ofNat 32 _
    rw [BitVec.ofNat_toNat]; simp
  rw [e]
  exact t ⟨_, h⟩
theorem dx_prog_35_method_1_code_0 : decode prog_35_method_1_code 0 = .ok (.aload_n 0, 1) := by decide +kernel
theorem dx_prog_35_method_1_code_1 : decode prog_35_method_1_code 1 = .ok (.invokespecial 1, 3) := by decide +kernel
theorem dx_prog_35_method_1_code_4 : decode prog_35_method_1_code 4 = .ok (.aload_n 0, 1) := by decide +kernel
theorem dx_prog_35_method_1_code_5 : decode prog_35_method_1_code 5 = .ok (.lload_n 1, 1) := by decide +kernel
theorem dx_prog_35_method_1_code_6 : decode prog_35_method_1_code 6 = .ok (.putfield 7, 3) := by decide +kernel
theorem dx_prog_35_method_1_code_9 : decode prog_35_method_1_code 9 = .ok (.aload_n 0, 1) := by decide +kernel
theorem dx_prog_35_method_1_code_10 : decode prog_35_method_1_code 10 = .ok (.lload_n 3, 1) := by decide +kernel
theorem dx_prog_35_method_1_code_11 : decode prog_35_method_1_code 11 = .ok (.putfield 13, 3) := by decide +kernel
theorem dx_prog_35_method_1_code_14 : decode prog_35_method_1_code 14 = .ok (.aload_n 0, 1) := by decide +kernel
theorem dx_prog_35_method_1_code_15 : decode prog_35_method_1_code 15 = .ok (.lload 5, 2) := by decide +kernel
theorem dx_prog_35_method_1_code_17 : decode prog_35_method_1_code 17 = .ok (.putfield 16, 3) := by decide +kernel
theorem dx_prog_35_method_1_code_20 : decode prog_35_method_1_code 20 = .ok (.aload_n 0, 1) := by decide +kernel
theorem dx_prog_35_method_1_code_21 : decode prog_35_method_1_code 21 = .ok (.aload 7, 2) := by decide +kernel
theorem dx_prog_35_method_1_code_23 : decode prog_35_method_1_code 23 = .ok (.putfield 19, 3) := by decide +kernel
theorem dx_prog_35_method_1_code_26 : decode prog_35_method_1_code 26 = .ok (.return_, 1) := by decide +kernel
def QTI (Z : State) (G1 : Int32) (a1 : Addr) (q1 : Int64) (q2 : Int64) (q3 : Int64) (u : Value) (h0 : Heap) (n0 : Nat) (v : Option Value) (h : Heap) (L : List Loc) : Prop := v = none ∧ Fr n0 L ∧ Keep h0 h [a1] ∧ Exa Z h a1 "com/example/armor_for_retries/armorforretries/bench/Tally" ∧ Fld Z h a1 "com/example/armor_for_retries/armorforretries/bench/Tally" "created" "J" (.long q1) ∧ Fld Z h a1 "com/example/armor_for_retries/armorforretries/bench/Tally" "windowed" "J" (.long q2) ∧ Fld Z h a1 "com/example/armor_for_retries/armorforretries/bench/Tally" "errors" "J" (.long q3) ∧ Fld Z h a1 "com/example/armor_for_retries/armorforretries/bench/Tally" "firstError" "Ljava/lang/String;" u
theorem ef_prog_35_method_1_code_RJJJV (m : MethodId) (x0 : Addr) (x1 : Int64) (x2 : Int64) (x3 : Int64) (x4 : Value) (r4 : x4.isRef = true) : entryFrame m #[(.ref x0), (.long x1), (.long x2), (.long x3), x4] 8 = mkF m 0 #[.val (.ref x0), .val (.long x1), .second, .val (.long x2), .second, .val (.long x3), .second, .val x4] [] := by
  rcases ref_cases r4 with rfl | ⟨_, rfl⟩ <;>
  (first | rfl | (simp [entryFrame, mkF, argsToLocals, Value.category]; done))
abbrev y0 : MethodName := ⟨"com/example/armor_for_retries/armorforretries/bench/Tally", "<init>", "(JJJLjava/lang/String;)V"⟩
theorem pn_com_example_armor_for_retries_armorforretries_bench_Tally : plainName "com/example/armor_for_retries/armorforretries/bench/Tally" = true := by first | (simp [plainName, overriddenIn]; done) | decide +kernel
set_option maxRecDepth 65536 in
set_option maxHeartbeats 40000000 in
theorem rmTI (l : Launch) (Z : State) (a0 : Array Value) (G1 : Int32) (hG : Glob Z a0 G1) (ws : List Jvm.Cond) (a1 : Addr) (q1 : Int64) (q2 : Int64) (q3 : Int64) (u : Value) (h0 : Heap) (n0 : Nat) (Z0 : n0 ≤ h0.size) (X00 : Old Z n0 h0) (E_a1 : Exa Z h0 a1 "com/example/armor_for_retries/armorforretries/bench/Tally") (F_created_a1 : Fld Z h0 a1 "com/example/armor_for_retries/armorforretries/bench/Tally" "created" "J" (.long (0 : Int64))) (F_windowed_a1 : Fld Z h0 a1 "com/example/armor_for_retries/armorforretries/bench/Tally" "windowed" "J" (.long (0 : Int64))) (F_errors_a1 : Fld Z h0 a1 "com/example/armor_for_retries/armorforretries/bench/Tally" "errors" "J" (.long (0 : Int64))) (F_firstError_a1 : Fld Z h0 a1 "com/example/armor_for_retries/armorforretries/bench/Tally" "firstError" "Ljava/lang/String;" .null) (g_a1 : n0 ≤ a1) (ru : u.isRef = true) :
    MetFree l y0 (head1 (Jvm.Cond.code y0 prog_35_method_1_code 8 none :: ws) ({ frames := 1, cells := 0, slots := 0, locals := 12 } : Room)) (fun a U => a = #[(.ref a1), (.long q1), (.long q2), (.long q3), u] ∧ Z.Warmed39 U.vm ∧ U.heap = h0) (fun _ _ _ _ _ => True) (fun _ U o U' => ∃ v L, o = .returned v ∧ QTI Z G1 a1 q1 q2 q3 u h0 n0 v U'.heap L ∧ FrameEnd U o U' L ({ frames := 1, cells := 0, slots := 0, locals := 12 } : Room).cells ({ frames := 1, cells := 0, slots := 0, locals := 12 } : Room).slots) := by
  obtain ⟨hw, O_cs, P_cs⟩ := id hG
  have W : ∀ (i : Nat) {d : Jvm.Cond}, tables_1[i]? = some d → d.before a0 Z = true := fun i d h => hw d (List.mem_of_getElem? h)
  refine MetFree.of_bodySF (plainFor_of_name pn_com_example_armor_for_retries_armorforretries_bench_Tally) hisR ?_
  intro p e s m args below meth c s₁ Bd hml0 hP hK
  obtain ⟨rfl, hZ, hh⟩ := hP
  have hx := Bd.exec
  have hby := Bd.bytes
  have hml : c.maxLocals = 8 := hml0
  have hown : s.vm.findClass "com/example/armor_for_retries/armorforretries/bench/Tally" = some m.cls := findClass_of_methodNamed Bd.named
  have hnm := (name_of_methodNamed Bd.named Bd.method).1
  have X0 : Stand p l e ({ frames := 1, cells := 0, slots := 0, locals := 12 } : Room) s m #[(.ref a1), (.long q1), (.long q2), (.long q3), u] below meth c s₁ [] 0 0 := Stand.of_body Bd
  have e0 : s₁.heap = h0 := by rw [← hh, Bd.state]; rfl
  have N0 := Fr.nil n0
  have pre0 : ∀ t, Steps p.tables e below (s₁.setTop (mkF m 0 #[.val (.ref a1), .val (.long q1), .second, .val (.long q2), .second, .val (.long q3), .second, .val u] [])) t → Steps p.tables e below (s₁.setTop (entryFrame m #[(.ref a1), (.long q1), (.long q2), (.long q3), u] 8)) t := fun t k => castTop (ef_prog_35_method_1_code_RJJJV m a1 q1 q2 q3 u ru) k
  obtain ⟨T1, X1, e1, st1⟩ := initO X0 hx hZ hown (W 36 rfl) (W 12 rfl) (W 13 rfl) e0 (g := (mkF m 1 #[.val (.ref a1), .val (.long q1), .second, .val (.long q2), .second, .val (.long q3), .second, .val u] [(.ref a1)])) rfl (by rw [hml]; rfl) rfl (hb hby dx_prog_35_method_1_code_1) (by decide) (W := 0) (by show 2 * 0 + _ ≤ _; exact Nat.le_of_eq rfl) (by decide)
  obtain ⟨T2, h2, X2, e2, W2, st2⟩ := putF X1 hx hZ hown (host := "") (Or.inl (W 37 rfl)) Via.refl e1 F_created_a1 E_a1 (Or.inr ⟨(W 38 rfl), rfl, hnm⟩) (W 31 rfl) (ty := .long) (by decide) rfl rfl (g := (mkF m 6 #[.val (.ref a1), .val (.long q1), .second, .val (.long q2), .second, .val (.long q3), .second, .val u] [(.long q1), (.ref a1)])) rfl rfl (hb hby dx_prog_35_method_1_code_6)
  have Fw2 := F_created_a1.same W2
  have Z3 : n0 ≤ h2.size := Nat.le_trans Z0 (Keep.of_wr W2).1
  have K0_3 : Keep h0 h2 [a1] := (Keep.refl h0 [a1]).wr W2 (Or.inl (List.mem_of_getElem? (i := 0) rfl))
  have O3 : Old Z n0 h2 := X00.wr W2 g_a1
  have N2 := Fr.snoc X2 N0 g_a1
  have f4 := (E_a1.wr W2)
  have f5 := (F_windowed_a1.other W2 (Or.inr (slot_ne (Or.inr (W 40 rfl)) (Or.inr (W 38 rfl)) (by decide) (t := .long) (t' := .long) (by decide) (by decide))))
  obtain ⟨T6, h6, X6, e6, W6, st6⟩ := putF X2 hx hZ hown (host := "") (Or.inl (W 39 rfl)) Via.refl e2 f5 f4 (Or.inr ⟨(W 40 rfl), rfl, hnm⟩) (W 31 rfl) (ty := .long) (by decide) rfl rfl (g := (mkF m 11 #[.val (.ref a1), .val (.long q1), .second, .val (.long q2), .second, .val (.long q3), .second, .val u] [(.long q2), (.ref a1)])) rfl rfl (hb hby dx_prog_35_method_1_code_11)
  have Fw6 := f5.same W6
  have Z7 : n0 ≤ h6.size := Nat.le_trans Z3 (Keep.of_wr W6).1
  have K0_7 : Keep h0 h6 [a1] := K0_3.wr W6 (Or.inl (List.mem_of_getElem? (i := 0) rfl))
  have O7 : Old Z n0 h6 := O3.wr W6 g_a1
  have N6 := Fr.snoc X6 N2 g_a1
  have f8 := (f4.wr W6)
  have f9 := ((F_errors_a1.other W2 (Or.inr (slot_ne (Or.inr (W 42 rfl)) (Or.inr (W 38 rfl)) (by decide) (t := .long) (t' := .long) (by decide) (by decide)))).other W6 (Or.inr (slot_ne (Or.inr (W 42 rfl)) (Or.inr (W 40 rfl)) (by decide) (t := .long) (t' := .long) (by decide) (by decide))))
  obtain ⟨T10, h10, X10, e10, W10, st10⟩ := putF X6 hx hZ hown (host := "") (Or.inl (W 41 rfl)) Via.refl e6 f9 f8 (Or.inr ⟨(W 42 rfl), rfl, hnm⟩) (W 31 rfl) (ty := .long) (by decide) rfl rfl (g := (mkF m 17 #[.val (.ref a1), .val (.long q1), .second, .val (.long q2), .second, .val (.long q3), .second, .val u] [(.long q3), (.ref a1)])) rfl rfl (hb hby dx_prog_35_method_1_code_17)
  have Fw10 := f9.same W10
  have Z11 : n0 ≤ h10.size := Nat.le_trans Z7 (Keep.of_wr W10).1
  have K0_11 : Keep h0 h10 [a1] := K0_7.wr W10 (Or.inl (List.mem_of_getElem? (i := 0) rfl))
  have O11 : Old Z n0 h10 := O7.wr W10 g_a1
  have N10 := Fr.snoc X10 N6 g_a1
  have f12 := (f8.wr W10)
  have f13 := (((F_firstError_a1.other W2 (Or.inr (slot_ne (Or.inr (W 44 rfl)) (Or.inr (W 38 rfl)) (by decide) (t := (.object "java/lang/String")) (t' := .long) (by decide) (by decide)))).other W6 (Or.inr (slot_ne (Or.inr (W 44 rfl)) (Or.inr (W 40 rfl)) (by decide) (t := (.object "java/lang/String")) (t' := .long) (by decide) (by decide)))).other W10 (Or.inr (slot_ne (Or.inr (W 44 rfl)) (Or.inr (W 42 rfl)) (by decide) (t := (.object "java/lang/String")) (t' := .long) (by decide) (by decide))))
  obtain ⟨T14, h14, X14, e14, W14, st14⟩ := putF X10 hx hZ hown (host := "") (Or.inl (W 43 rfl)) Via.refl e10 f13 f12 (Or.inr ⟨(W 44 rfl), rfl, hnm⟩) (W 31 rfl) (ty := (.object "java/lang/String")) (by decide) (own_nar rfl ru) (own_fits rfl ru) (g := (mkF m 23 #[.val (.ref a1), .val (.long q1), .second, .val (.long q2), .second, .val (.long q3), .second, .val u] [u, (.ref a1)])) rfl rfl (hb hby dx_prog_35_method_1_code_23)
  have Fw14 := f13.same W14
  have Z15 : n0 ≤ h14.size := Nat.le_trans Z11 (Keep.of_wr W14).1
  have K0_15 : Keep h0 h14 [a1] := K0_11.wr W14 (Or.inl (List.mem_of_getElem? (i := 0) rfl))
  have O15 : Old Z n0 h14 := O11.wr W14 g_a1
  have N14 := Fr.snoc X14 N10 g_a1
  have f16 := (f12.wr W14)
  have f17 := (((Fw2.other W6 (Or.inr (slot_ne (Or.inr (W 38 rfl)) (Or.inr (W 40 rfl)) (by decide) (t := .long) (t' := .long) (by decide) (by decide)))).other W10 (Or.inr (slot_ne (Or.inr (W 38 rfl)) (Or.inr (W 42 rfl)) (by decide) (t := .long) (t' := .long) (by decide) (by decide)))).other W14 (Or.inr (slot_ne (Or.inr (W 38 rfl)) (Or.inr (W 44 rfl)) (by decide) (t := .long) (t' := (.object "java/lang/String")) (by decide) (by decide))))
  have f18 := ((Fw6.other W10 (Or.inr (slot_ne (Or.inr (W 40 rfl)) (Or.inr (W 42 rfl)) (by decide) (t := .long) (t' := .long) (by decide) (by decide)))).other W14 (Or.inr (slot_ne (Or.inr (W 40 rfl)) (Or.inr (W 44 rfl)) (by decide) (t := .long) (t' := (.object "java/lang/String")) (by decide) (by decide))))
  have f19 := (Fw10.other W14 (Or.inr (slot_ne (Or.inr (W 42 rfl)) (Or.inr (W 44 rfl)) (by decide) (t := .long) (t' := (.object "java/lang/String")) (by decide) (by decide))))
  obtain ⟨fs, hr, hrun, hended, hW, hsame⟩ := X14.leave (v := none) (fun _ => rfl)
  refine ⟨_, _, pre0 _ ?_, hrun, hended, _, _, rfl, ?_, ⟨_, rfl⟩, hW, hsame.mono (Nat.le_of_ble_eq_true rfl) (Nat.le_of_ble_eq_true rfl)⟩
  · show Steps p.tables e below (s₁.setTop (mkF m 0 #[.val (.ref a1), .val (.long q1), .second, .val (.long q2), .second, .val (.long q3), .second, .val u] [])) _
    refine XS.aloadN X0.here hx rfl (hb hby dx_prog_35_method_1_code_0) rfl rfl ?_
    show Steps p.tables e below (s₁.setTop (mkF m 1 #[.val (.ref a1), .val (.long q1), .second, .val (.long q2), .second, .val (.long q3), .second, .val u] [(.ref a1)])) _
    refine st1 _ ?_
    show Steps p.tables e below (T1.setTop (mkF m 4 #[.val (.ref a1), .val (.long q1), .second, .val (.long q2), .second, .val (.long q3), .second, .val u] [])) _
    refine XS.aloadN X1.here hx rfl (hb hby dx_prog_35_method_1_code_4) rfl rfl ?_
    show Steps p.tables e below (T1.setTop (mkF m 5 #[.val (.ref a1), .val (.long q1), .second, .val (.long q2), .second, .val (.long q3), .second, .val u] [(.ref a1)])) _
    refine XS.lloadN X1.here hx rfl (hb hby dx_prog_35_method_1_code_5) rfl ?_
    show Steps p.tables e below (T1.setTop (mkF m 6 #[.val (.ref a1), .val (.long q1), .second, .val (.long q2), .second, .val (.long q3), .second, .val u] [(.long q1), (.ref a1)])) _
    refine st2 _ ?_
    show Steps p.tables e below (T2.setTop (mkF m 9 #[.val (.ref a1), .val (.long q1), .second, .val (.long q2), .second, .val (.long q3), .second, .val u] [])) _
    refine XS.aloadN X2.here hx rfl (hb hby dx_prog_35_method_1_code_9) rfl rfl ?_
    show Steps p.tables e below (T2.setTop (mkF m 10 #[.val (.ref a1), .val (.long q1), .second, .val (.long q2), .second, .val (.long q3), .second, .val u] [(.ref a1)])) _
    refine XS.lloadN X2.here hx rfl (hb hby dx_prog_35_method_1_code_10) rfl ?_
    show Steps p.tables e below (T2.setTop (mkF m 11 #[.val (.ref a1), .val (.long q1), .second, .val (.long q2), .second, .val (.long q3), .second, .val u] [(.long q2), (.ref a1)])) _
    refine st6 _ ?_
    show Steps p.tables e below (T6.setTop (mkF m 14 #[.val (.ref a1), .val (.long q1), .second, .val (.long q2), .second, .val (.long q3), .second, .val u] [])) _
    refine XS.aloadN X6.here hx rfl (hb hby dx_prog_35_method_1_code_14) rfl rfl ?_
    show Steps p.tables e below (T6.setTop (mkF m 15 #[.val (.ref a1), .val (.long q1), .second, .val (.long q2), .second, .val (.long q3), .second, .val u] [(.ref a1)])) _
    refine XS.lload X6.here hx rfl (hb hby dx_prog_35_method_1_code_15) rfl ?_
    show Steps p.tables e below (T6.setTop (mkF m 17 #[.val (.ref a1), .val (.long q1), .second, .val (.long q2), .second, .val (.long q3), .second, .val u] [(.long q3), (.ref a1)])) _
    refine st10 _ ?_
    show Steps p.tables e below (T10.setTop (mkF m 20 #[.val (.ref a1), .val (.long q1), .second, .val (.long q2), .second, .val (.long q3), .second, .val u] [])) _
    refine XS.aloadN X10.here hx rfl (hb hby dx_prog_35_method_1_code_20) rfl rfl ?_
    show Steps p.tables e below (T10.setTop (mkF m 21 #[.val (.ref a1), .val (.long q1), .second, .val (.long q2), .second, .val (.long q3), .second, .val u] [(.ref a1)])) _
    refine XS.aload X10.here hx rfl (hb hby dx_prog_35_method_1_code_21) rfl ru ?_
    show Steps p.tables e below (T10.setTop (mkF m 23 #[.val (.ref a1), .val (.long q1), .second, .val (.long q2), .second, .val (.long q3), .second, .val u] [u, (.ref a1)])) _
    refine st14 _ ?_
    show Steps p.tables e below (T14.setTop (mkF m 26 #[.val (.ref a1), .val (.long q1), .second, .val (.long q2), .second, .val (.long q3), .second, .val u] [])) _
    exact X14.returnOut hx Bd.returns (hb hby dx_prog_35_method_1_code_26) hr
  · show QTI Z G1 a1 q1 q2 q3 u h0 n0 _ T14.heap _
    rw [e14]
    exact ⟨rfl, N14, K0_15, f16, f17, f18, f19, Fw14⟩
theorem dx_prog_35_method_3_code_0 : decode prog_35_method_3_code 0 = .ok (.aload_n 0, 1) := by decide +kernel
theorem dx_prog_35_method_3_code_1 : decode prog_35_method_3_code 1 = .ok (.getfield 7, 3) := by decide +kernel
theorem dx_prog_35_method_3_code_4 : decode prog_35_method_3_code 4 = .ok (.lreturn, 1) := by decide +kernel
def QG_created (Z : State) (G1 : Int32) (a1 : Addr) (q : Int64) (h0 : Heap) (n0 : Nat) (v : Option Value) (h : Heap) (L : List Loc) : Prop := v = some (.long q) ∧ Fr n0 L ∧ h = h0
theorem ef_prog_35_method_3_code_R (m : MethodId) (x0 : Addr) : entryFrame m #[(.ref x0)] 1 = mkF m 0 #[.val (.ref x0)] [] := by first | (simp [entryFrame, mkF, argsToLocals, Value.category]; done) | rfl
abbrev y1 : MethodName := ⟨"com/example/armor_for_retries/armorforretries/bench/Tally", "created", "()J"⟩
set_option maxRecDepth 65536 in
set_option maxHeartbeats 40000000 in
theorem rmG_created (l : Launch) (Z : State) (a0 : Array Value) (G1 : Int32) (hG : Glob Z a0 G1) (ws : List Jvm.Cond) (a1 : Addr) (q : Int64) (h0 : Heap) (n0 : Nat) (Z0 : n0 ≤ h0.size) (X00 : Old Z n0 h0) (F_created_a1 : Fld Z h0 a1 "com/example/armor_for_retries/armorforretries/bench/Tally" "created" "J" (.long q)) :
    MetFree l y1 (head1 (Jvm.Cond.code y1 prog_35_method_3_code 1 (some .long) :: ws) ({ frames := 0, cells := 0, slots := 0, locals := 0 } : Room)) (fun a U => a = #[(.ref a1)] ∧ Z.Warmed39 U.vm ∧ U.heap = h0) (fun _ _ _ _ _ => True) (fun _ U o U' => ∃ v L, o = .returned v ∧ QG_created Z G1 a1 q h0 n0 v U'.heap L ∧ FrameEnd U o U' L ({ frames := 0, cells := 0, slots := 0, locals := 0 } : Room).cells ({ frames := 0, cells := 0, slots := 0, locals := 0 } : Room).slots) := by
  obtain ⟨hw, O_cs, P_cs⟩ := id hG
  have W : ∀ (i : Nat) {d : Jvm.Cond}, tables_1[i]? = some d → d.before a0 Z = true := fun i d h => hw d (List.mem_of_getElem? h)
  refine MetFree.of_bodySF (plainFor_of_name pn_com_example_armor_for_retries_armorforretries_bench_Tally) hisR ?_
  intro p e s m args below meth c s₁ Bd hml0 hP hK
  obtain ⟨rfl, hZ, hh⟩ := hP
  have hx := Bd.exec
  have hby := Bd.bytes
  have hml : c.maxLocals = 1 := hml0
  have hown : s.vm.findClass "com/example/armor_for_retries/armorforretries/bench/Tally" = some m.cls := findClass_of_methodNamed Bd.named
  have hnm := (name_of_methodNamed Bd.named Bd.method).1
  have X0 : Stand p l e ({ frames := 0, cells := 0, slots := 0, locals := 0 } : Room) s m #[(.ref a1)] below meth c s₁ [] 0 0 := Stand.of_body Bd
  have e0 : s₁.heap = h0 := by rw [← hh, Bd.state]; rfl
  have N0 := Fr.nil n0
  have pre0 : ∀ t, Steps p.tables e below (s₁.setTop (mkF m 0 #[.val (.ref a1)] [])) t → Steps p.tables e below (s₁.setTop (entryFrame m #[(.ref a1)] 1)) t := fun t k => castTop (ef_prog_35_method_3_code_R m a1) k
  obtain ⟨T20, X20, e20, st20⟩ := getF X0 hx hZ hown (host := "") (Or.inl (W 37 rfl)) Via.refl e0 F_created_a1 (g := (mkF m 1 #[.val (.ref a1)] [(.ref a1)])) rfl rfl (hb hby dx_prog_35_method_3_code_1)
  obtain ⟨fs, hr, hrun, hended, hW, hsame⟩ := X20.leave (v := some (.long q)) (fun h => by rw [Bd.returns] at h; cases h)
  refine ⟨_, _, pre0 _ ?_, hrun, hended, _, _, rfl, ?_, ⟨_, rfl⟩, hW, hsame.mono (Nat.le_of_ble_eq_true rfl) (Nat.le_of_ble_eq_true rfl)⟩
  · show Steps p.tables e below (s₁.setTop (mkF m 0 #[.val (.ref a1)] [])) _
    refine XS.aloadN X0.here hx rfl (hb hby dx_prog_35_method_3_code_0) rfl rfl ?_
    show Steps p.tables e below (s₁.setTop (mkF m 1 #[.val (.ref a1)] [(.ref a1)])) _
    refine st20 _ ?_
    show Steps p.tables e below (T20.setTop (mkF m 4 #[.val (.ref a1)] [(.long q)])) _
    exact retOut X20 hx Bd.returns rfl (Or.inr (Or.inl ⟨rfl, rfl, _, rfl⟩)) (hb hby dx_prog_35_method_3_code_4) hr
  · show QG_created Z G1 a1 q h0 n0 _ T20.heap _
    rw [e20]
    exact ⟨rfl, N0, rfl⟩
theorem dx_prog_35_method_4_code_0 : decode prog_35_method_4_code 0 = .ok (.aload_n 0, 1) := by decide +kernel
theorem dx_prog_35_method_4_code_1 : decode prog_35_method_4_code 1 = .ok (.getfield 16, 3) := by decide +kernel
theorem dx_prog_35_method_4_code_4 : decode prog_35_method_4_code 4 = .ok (.lreturn, 1) := by decide +kernel
def QG_errors (Z : State) (G1 : Int32) (a1 : Addr) (q : Int64) (h0 : Heap) (n0 : Nat) (v : Option Value) (h : Heap) (L : List Loc) : Prop := v = some (.long q) ∧ Fr n0 L ∧ h = h0
theorem ef_prog_35_method_4_code_R (m : MethodId) (x0 : Addr) : entryFrame m #[(.ref x0)] 1 = mkF m 0 #[.val (.ref x0)] [] := by first | (simp [entryFrame, mkF, argsToLocals, Value.category]; done) | rfl
abbrev y2 : MethodName := ⟨"com/example/armor_for_retries/armorforretries/bench/Tally", "errors", "()J"⟩
set_option maxRecDepth 65536 in
set_option maxHeartbeats 40000000 in
theorem rmG_errors (l : Launch) (Z : State) (a0 : Array Value) (G1 : Int32) (hG : Glob Z a0 G1) (ws : List Jvm.Cond) (a1 : Addr) (q : Int64) (h0 : Heap) (n0 : Nat) (Z0 : n0 ≤ h0.size) (X00 : Old Z n0 h0) (F_errors_a1 : Fld Z h0 a1 "com/example/armor_for_retries/armorforretries/bench/Tally" "errors" "J" (.long q)) :
    MetFree l y2 (head1 (Jvm.Cond.code y2 prog_35_method_4_code 1 (some .long) :: ws) ({ frames := 0, cells := 0, slots := 0, locals := 0 } : Room)) (fun a U => a = #[(.ref a1)] ∧ Z.Warmed39 U.vm ∧ U.heap = h0) (fun _ _ _ _ _ => True) (fun _ U o U' => ∃ v L, o = .returned v ∧ QG_errors Z G1 a1 q h0 n0 v U'.heap L ∧ FrameEnd U o U' L ({ frames := 0, cells := 0, slots := 0, locals := 0 } : Room).cells ({ frames := 0, cells := 0, slots := 0, locals := 0 } : Room).slots) := by
  obtain ⟨hw, O_cs, P_cs⟩ := id hG
  have W : ∀ (i : Nat) {d : Jvm.Cond}, tables_1[i]? = some d → d.before a0 Z = true := fun i d h => hw d (List.mem_of_getElem? h)
  refine MetFree.of_bodySF (plainFor_of_name pn_com_example_armor_for_retries_armorforretries_bench_Tally) hisR ?_
  intro p e s m args below meth c s₁ Bd hml0 hP hK
  obtain ⟨rfl, hZ, hh⟩ := hP
  have hx := Bd.exec
  have hby := Bd.bytes
  have hml : c.maxLocals = 1 := hml0
  have hown : s.vm.findClass "com/example/armor_for_retries/armorforretries/bench/Tally" = some m.cls := findClass_of_methodNamed Bd.named
  have hnm := (name_of_methodNamed Bd.named Bd.method).1
  have X0 : Stand p l e ({ frames := 0, cells := 0, slots := 0, locals := 0 } : Room) s m #[(.ref a1)] below meth c s₁ [] 0 0 := Stand.of_body Bd
  have e0 : s₁.heap = h0 := by rw [← hh, Bd.state]; rfl
  have N0 := Fr.nil n0
  have pre0 : ∀ t, Steps p.tables e below (s₁.setTop (mkF m 0 #[.val (.ref a1)] [])) t → Steps p.tables e below (s₁.setTop (entryFrame m #[(.ref a1)] 1)) t := fun t k => castTop (ef_prog_35_method_4_code_R m a1) k
  obtain ⟨T21, X21, e21, st21⟩ := getF X0 hx hZ hown (host := "") (Or.inl (W 41 rfl)) Via.refl e0 F_errors_a1 (g := (mkF m 1 #[.val (.ref a1)] [(.ref a1)])) rfl rfl (hb hby dx_prog_35_method_4_code_1)
  obtain ⟨fs, hr, hrun, hended, hW, hsame⟩ := X21.leave (v := some (.long q)) (fun h => by rw [Bd.returns] at h; cases h)
  refine ⟨_, _, pre0 _ ?_, hrun, hended, _, _, rfl, ?_, ⟨_, rfl⟩, hW, hsame.mono (Nat.le_of_ble_eq_true rfl) (Nat.le_of_ble_eq_true rfl)⟩
  · show Steps p.tables e below (s₁.setTop (mkF m 0 #[.val (.ref a1)] [])) _
    refine XS.aloadN X0.here hx rfl (hb hby dx_prog_35_method_4_code_0) rfl rfl ?_
    show Steps p.tables e below (s₁.setTop (mkF m 1 #[.val (.ref a1)] [(.ref a1)])) _
    refine st21 _ ?_
    show Steps p.tables e below (T21.setTop (mkF m 4 #[.val (.ref a1)] [(.long q)])) _
    exact retOut X21 hx Bd.returns rfl (Or.inr (Or.inl ⟨rfl, rfl, _, rfl⟩)) (hb hby dx_prog_35_method_4_code_4) hr
  · show QG_errors Z G1 a1 q h0 n0 _ T21.heap _
    rw [e21]
    exact ⟨rfl, N0, rfl⟩
theorem dx_prog_35_method_5_code_0 : decode prog_35_method_5_code 0 = .ok (.aload_n 0, 1) := by decide +kernel
theorem dx_prog_35_method_5_code_1 : decode prog_35_method_5_code 1 = .ok (.getfield 19, 3) := by decide +kernel
theorem dx_prog_35_method_5_code_4 : decode prog_35_method_5_code 4 = .ok (.areturn, 1) := by decide +kernel
def QG_firstError (Z : State) (G1 : Int32) (a1 : Addr) (u : Value) (h0 : Heap) (n0 : Nat) (v : Option Value) (h : Heap) (L : List Loc) : Prop := v = some u ∧ Fr n0 L ∧ h = h0
theorem ef_prog_35_method_5_code_R (m : MethodId) (x0 : Addr) : entryFrame m #[(.ref x0)] 1 = mkF m 0 #[.val (.ref x0)] [] := by first | (simp [entryFrame, mkF, argsToLocals, Value.category]; done) | rfl
abbrev y3 : MethodName := ⟨"com/example/armor_for_retries/armorforretries/bench/Tally", "firstError", "()Ljava/lang/String;"⟩
set_option maxRecDepth 65536 in
set_option maxHeartbeats 40000000 in
theorem rmG_firstError (l : Launch) (Z : State) (a0 : Array Value) (G1 : Int32) (hG : Glob Z a0 G1) (ws : List Jvm.Cond) (a1 : Addr) (u : Value) (h0 : Heap) (n0 : Nat) (Z0 : n0 ≤ h0.size) (X00 : Old Z n0 h0) (F_firstError_a1 : Fld Z h0 a1 "com/example/armor_for_retries/armorforretries/bench/Tally" "firstError" "Ljava/lang/String;" u) (ru : u.isRef = true) :
    MetFree l y3 (head1 (Jvm.Cond.code y3 prog_35_method_5_code 1 (some (.object "java/lang/String")) :: ws) ({ frames := 0, cells := 0, slots := 0, locals := 0 } : Room)) (fun a U => a = #[(.ref a1)] ∧ Z.Warmed39 U.vm ∧ U.heap = h0) (fun _ _ _ _ _ => True) (fun _ U o U' => ∃ v L, o = .returned v ∧ QG_firstError Z G1 a1 u h0 n0 v U'.heap L ∧ FrameEnd U o U' L ({ frames := 0, cells := 0, slots := 0, locals := 0 } : Room).cells ({ frames := 0, cells := 0, slots := 0, locals := 0 } : Room).slots) := by
  obtain ⟨hw, O_cs, P_cs⟩ := id hG
  have W : ∀ (i : Nat) {d : Jvm.Cond}, tables_1[i]? = some d → d.before a0 Z = true := fun i d h => hw d (List.mem_of_getElem? h)
  refine MetFree.of_bodySF (plainFor_of_name pn_com_example_armor_for_retries_armorforretries_bench_Tally) hisR ?_
  intro p e s m args below meth c s₁ Bd hml0 hP hK
  obtain ⟨rfl, hZ, hh⟩ := hP
  have hx := Bd.exec
  have hby := Bd.bytes
  have hml : c.maxLocals = 1 := hml0
  have hown : s.vm.findClass "com/example/armor_for_retries/armorforretries/bench/Tally" = some m.cls := findClass_of_methodNamed Bd.named
  have hnm := (name_of_methodNamed Bd.named Bd.method).1
  have X0 : Stand p l e ({ frames := 0, cells := 0, slots := 0, locals := 0 } : Room) s m #[(.ref a1)] below meth c s₁ [] 0 0 := Stand.of_body Bd
  have e0 : s₁.heap = h0 := by rw [← hh, Bd.state]; rfl
  have N0 := Fr.nil n0
  have pre0 : ∀ t, Steps p.tables e below (s₁.setTop (mkF m 0 #[.val (.ref a1)] [])) t → Steps p.tables e below (s₁.setTop (entryFrame m #[(.ref a1)] 1)) t := fun t k => castTop (ef_prog_35_method_5_code_R m a1) k
  obtain ⟨T22, X22, e22, st22⟩ := getF X0 hx hZ hown (host := "") (Or.inl (W 43 rfl)) Via.refl e0 F_firstError_a1 (g := (mkF m 1 #[.val (.ref a1)] [(.ref a1)])) rfl rfl (hb hby dx_prog_35_method_5_code_1)
  obtain ⟨fs, hr, hrun, hended, hW, hsame⟩ := X22.leave (v := some u) (fun h => by rw [Bd.returns] at h; cases h)
  refine ⟨_, _, pre0 _ ?_, hrun, hended, _, _, rfl, ?_, ⟨_, rfl⟩, hW, hsame.mono (Nat.le_of_ble_eq_true rfl) (Nat.le_of_ble_eq_true rfl)⟩
  · show Steps p.tables e below (s₁.setTop (mkF m 0 #[.val (.ref a1)] [])) _
    refine XS.aloadN X0.here hx rfl (hb hby dx_prog_35_method_5_code_0) rfl rfl ?_
    show Steps p.tables e below (s₁.setTop (mkF m 1 #[.val (.ref a1)] [(.ref a1)])) _
    refine st22 _ ?_
    show Steps p.tables e below (T22.setTop (mkF m 4 #[.val (.ref a1)] [u])) _
    exact retOut X22 hx Bd.returns (own_nar rfl ru) (Or.inr (Or.inr (Or.inr (Or.inr ⟨rfl, rfl, ru⟩)))) (hb hby dx_prog_35_method_5_code_4) hr
  · show QG_firstError Z G1 a1 u h0 n0 _ T22.heap _
    rw [e22]
    exact ⟨rfl, N0, rfl⟩
theorem dx_prog_35_method_2_code_0 : decode prog_35_method_2_code 0 = .ok (.new 8, 3) := by decide +kernel
theorem dx_prog_35_method_2_code_3 : decode prog_35_method_2_code 3 = .ok (.dup, 1) := by decide +kernel
theorem dx_prog_35_method_2_code_4 : decode prog_35_method_2_code 4 = .ok (.aload_n 0, 1) := by decide +kernel
theorem dx_prog_35_method_2_code_5 : decode prog_35_method_2_code 5 = .ok (.getfield 7, 3) := by decide +kernel
theorem dx_prog_35_method_2_code_8 : decode prog_35_method_2_code 8 = .ok (.aload_n 1, 1) := by decide +kernel
theorem dx_prog_35_method_2_code_9 : decode prog_35_method_2_code 9 = .ok (.getfield 7, 3) := by decide +kernel
theorem dx_prog_35_method_2_code_12 : decode prog_35_method_2_code 12 = .ok (.ladd, 1) := by decide +kernel
theorem dx_prog_35_method_2_code_13 : decode prog_35_method_2_code 13 = .ok (.aload_n 0, 1) := by decide +kernel
theorem dx_prog_35_method_2_code_14 : decode prog_35_method_2_code 14 = .ok (.getfield 13, 3) := by decide +kernel
theorem dx_prog_35_method_2_code_17 : decode prog_35_method_2_code 17 = .ok (.aload_n 1, 1) := by decide +kernel
theorem dx_prog_35_method_2_code_18 : decode prog_35_method_2_code 18 = .ok (.getfield 13, 3) := by decide +kernel
theorem dx_prog_35_method_2_code_21 : decode prog_35_method_2_code 21 = .ok (.ladd, 1) := by decide +kernel
theorem dx_prog_35_method_2_code_22 : decode prog_35_method_2_code 22 = .ok (.aload_n 0, 1) := by decide +kernel
theorem dx_prog_35_method_2_code_23 : decode prog_35_method_2_code 23 = .ok (.getfield 16, 3) := by decide +kernel
theorem dx_prog_35_method_2_code_26 : decode prog_35_method_2_code 26 = .ok (.aload_n 1, 1) := by decide +kernel
theorem dx_prog_35_method_2_code_27 : decode prog_35_method_2_code 27 = .ok (.getfield 16, 3) := by decide +kernel
theorem dx_prog_35_method_2_code_30 : decode prog_35_method_2_code 30 = .ok (.ladd, 1) := by decide +kernel
theorem dx_prog_35_method_2_code_31 : decode prog_35_method_2_code 31 = .ok (.aload_n 0, 1) := by decide +kernel
theorem dx_prog_35_method_2_code_32 : decode prog_35_method_2_code 32 = .ok (.getfield 19, 3) := by decide +kernel
theorem dx_prog_35_method_2_code_35 : decode prog_35_method_2_code 35 = .ok (.ifnonnull 10, 3) := by decide +kernel
theorem dx_prog_35_method_2_code_38 : decode prog_35_method_2_code 38 = .ok (.aload_n 1, 1) := by decide +kernel
theorem dx_prog_35_method_2_code_39 : decode prog_35_method_2_code 39 = .ok (.getfield 19, 3) := by decide +kernel
theorem dx_prog_35_method_2_code_42 : decode prog_35_method_2_code 42 = .ok (.goto 7, 3) := by decide +kernel
theorem dx_prog_35_method_2_code_49 : decode prog_35_method_2_code 49 = .ok (.invokespecial 23, 3) := by decide +kernel
theorem pd__JJJLjava_lang_String__V : parseMethodDescriptor "(JJJLjava/lang/String;)V" = some ⟨[.long, .long, .long, (.object "java/lang/String")], none⟩ := by decide +kernel
theorem dx_prog_35_method_2_code_52 : decode prog_35_method_2_code 52 = .ok (.areturn, 1) := by decide +kernel
def QplusN (Z : State) (G1 : Int32) (a1 : Addr) (a2 : Addr) (c1 : Int64) (v1 : Int64) (e1 : Int64) (c2 : Int64) (v2 : Int64) (e2 : Int64) (u2 : Value) (h0 : Heap) (n0 : Nat) (v : Option Value) (h : Heap) (L : List Loc) : Prop := ∃ b : Addr, v = some (.ref b) ∧ Fr n0 L ∧ Keep h0 h [] ∧ h0.size ≤ b ∧ Exa Z h b "com/example/armor_for_retries/armorforretries/bench/Tally" ∧ Fld Z h b "com/example/armor_for_retries/armorforretries/bench/Tally" "created" "J" (.long (c1 + c2)) ∧ Fld Z h b "com/example/armor_for_retries/armorforretries/bench/Tally" "errors" "J" (.long (e1 + e2)) ∧ Fld Z h b "com/example/armor_for_retries/armorforretries/bench/Tally" "firstError" "Ljava/lang/String;" u2
theorem ef_prog_35_method_2_code_RR (m : MethodId) (x0 : Addr) (x1 : Addr) : entryFrame m #[(.ref x0), (.ref x1)] 2 = mkF m 0 #[.val (.ref x0), .val (.ref x1)] [] := by first | (simp [entryFrame, mkF, argsToLocals, Value.category]; done) | rfl
abbrev y4 : MethodName := ⟨"com/example/armor_for_retries/armorforretries/bench/Tally", "plus", "(Lcom/example/armor_for_retries/armorforretries/bench/Tally;)Lcom/example/armor_for_retries/armorforretries/bench/Tally;"⟩
set_option maxRecDepth 65536 in
set_option maxHeartbeats 40000000 in
theorem rmplusN (l : Launch) (Z : State) (a0 : Array Value) (G1 : Int32) (hG : Glob Z a0 G1) (ws : List Jvm.Cond) (a1 : Addr) (a2 : Addr) (c1 : Int64) (v1 : Int64) (e1 : Int64) (c2 : Int64) (v2 : Int64) (e2 : Int64) (u2 : Value) (h0 : Heap) (n0 : Nat) (Z0 : n0 ≤ h0.size) (X00 : Old Z n0 h0) (E_a1 : Exa Z h0 a1 "com/example/armor_for_retries/armorforretries/bench/Tally") (F_created_a1 : Fld Z h0 a1 "com/example/armor_for_retries/armorforretries/bench/Tally" "created" "J" (.long c1)) (F_windowed_a1 : Fld Z h0 a1 "com/example/armor_for_retries/armorforretries/bench/Tally" "windowed" "J" (.long v1)) (F_errors_a1 : Fld Z h0 a1 "com/example/armor_for_retries/armorforretries/bench/Tally" "errors" "J" (.long e1)) (F_firstError_a1 : Fld Z h0 a1 "com/example/armor_for_retries/armorforretries/bench/Tally" "firstError" "Ljava/lang/String;" .null) (E_a2 : Exa Z h0 a2 "com/example/armor_for_retries/armorforretries/bench/Tally") (F_created_a2 : Fld Z h0 a2 "com/example/armor_for_retries/armorforretries/bench/Tally" "created" "J" (.long c2)) (F_windowed_a2 : Fld Z h0 a2 "com/example/armor_for_retries/armorforretries/bench/Tally" "windowed" "J" (.long v2)) (F_errors_a2 : Fld Z h0 a2 "com/example/armor_for_retries/armorforretries/bench/Tally" "errors" "J" (.long e2)) (F_firstError_a2 : Fld Z h0 a2 "com/example/armor_for_retries/armorforretries/bench/Tally" "firstError" "Ljava/lang/String;" u2) (ru : u2.isRef = true) :
    MetFree l y4 (head1 (Jvm.Cond.code y4 prog_35_method_2_code 2 (some (.object "com/example/armor_for_retries/armorforretries/bench/Tally")) :: ws) ({ frames := 2, cells := 1, slots := 4, locals := 32 } : Room)) (fun a U => a = #[(.ref a1), (.ref a2)] ∧ Z.Warmed39 U.vm ∧ U.heap = h0) (fun _ _ _ _ _ => True) (fun _ U o U' => ∃ v L, o = .returned v ∧ QplusN Z G1 a1 a2 c1 v1 e1 c2 v2 e2 u2 h0 n0 v U'.heap L ∧ FrameEnd U o U' L ({ frames := 2, cells := 1, slots := 4, locals := 32 } : Room).cells ({ frames := 2, cells := 1, slots := 4, locals := 32 } : Room).slots) := by
  obtain ⟨hw, O_cs, P_cs⟩ := id hG
  have W : ∀ (i : Nat) {d : Jvm.Cond}, tables_1[i]? = some d → d.before a0 Z = true := fun i d h => hw d (List.mem_of_getElem? h)
  refine MetFree.of_bodySF (plainFor_of_name pn_com_example_armor_for_retries_armorforretries_bench_Tally) hisR ?_
  intro p e s m args below meth c s₁ Bd hml0 hP hK
  obtain ⟨rfl, hZ, hh⟩ := hP
  have hx := Bd.exec
  have hby := Bd.bytes
  have hml : c.maxLocals = 2 := hml0
  have hown : s.vm.findClass "com/example/armor_for_retries/armorforretries/bench/Tally" = some m.cls := findClass_of_methodNamed Bd.named
  have hnm := (name_of_methodNamed Bd.named Bd.method).1
  have X0 : Stand p l e ({ frames := 2, cells := 1, slots := 4, locals := 32 } : Room) s m #[(.ref a1), (.ref a2)] below meth c s₁ [] 0 0 := Stand.of_body Bd
  have e0 : s₁.heap = h0 := by rw [← hh, Bd.state]; rfl
  have N0 := Fr.nil n0
  have pre0 : ∀ t, Steps p.tables e below (s₁.setTop (mkF m 0 #[.val (.ref a1), .val (.ref a2)] [])) t → Steps p.tables e below (s₁.setTop (entryFrame m #[(.ref a1), (.ref a2)] 2)) t := fun t k => castTop (ef_prog_35_method_2_code_RR m a1 a2) k
  obtain ⟨T23, h23, X23, e23, E23, A23, D23, -, st23⟩ := newO X0 hx hZ hown (W 51 rfl) (W 31 rfl) (W 32 rfl) e0 (g := (mkF m 0 #[.val (.ref a1), .val (.ref a2)] [])) rfl (hb hby dx_prog_35_method_2_code_0) (by decide) (by decide)
  obtain ⟨b23, g23⟩ : ∃ z, z = h0.size := ⟨_, rfl⟩
  rw [← g23] at A23 D23 st23
  have Z24 : n0 ≤ h23.size := Nat.le_trans Z0 E23.1
  have K0_24 : Keep h0 h23 [] := (Keep.refl h0 []).ext E23
  have O24 : Old Z n0 h23 := X00.ext E23
  have lo_b23 : h0.size ≤ b23 := Nat.le_of_eq g23.symm
  have g_b23 : n0 ≤ b23 := Nat.le_trans Z0 lo_b23
  have l0_b23 : h0.size ≤ b23 := Nat.le_trans (Keep.refl h0 []).1 lo_b23
  have F_created_b23 : Fld Z h23 b23 "com/example/armor_for_retries/armorforretries/bench/Tally" "created" "J" (.long (0 : Int64)) := D23 (Or.inr (W 38 rfl)) (ty := .long) (by decide)
  have F_windowed_b23 : Fld Z h23 b23 "com/example/armor_for_retries/armorforretries/bench/Tally" "windowed" "J" (.long (0 : Int64)) := D23 (Or.inr (W 40 rfl)) (ty := .long) (by decide)
  have F_errors_b23 : Fld Z h23 b23 "com/example/armor_for_retries/armorforretries/bench/Tally" "errors" "J" (.long (0 : Int64)) := D23 (Or.inr (W 42 rfl)) (ty := .long) (by decide)
  have F_firstError_b23 : Fld Z h23 b23 "com/example/armor_for_retries/armorforretries/bench/Tally" "firstError" "Ljava/lang/String;" .null := D23 (Or.inr (W 44 rfl)) (ty := (.object "java/lang/String")) (by decide)
  have f25 := (F_created_a1.ext E23)
  obtain ⟨T26, X26, e26, st26⟩ := getF X23 hx hZ hown (host := "") (Or.inl (W 37 rfl)) Via.refl e23 f25 (g := (mkF m 5 #[.val (.ref a1), .val (.ref a2)] [(.ref a1), (.ref b23), (.ref b23)])) rfl rfl (hb hby dx_prog_35_method_2_code_5)
  have f27 := (F_created_a2.ext E23)
  obtain ⟨T28, X28, e28, st28⟩ := getF X26 hx hZ hown (host := "") (Or.inl (W 37 rfl)) Via.refl e26 f27 (g := (mkF m 9 #[.val (.ref a1), .val (.ref a2)] [(.ref a2), (.long c1), (.ref b23), (.ref b23)])) rfl rfl (hb hby dx_prog_35_method_2_code_9)
  have f29 := (F_windowed_a1.ext E23)
  obtain ⟨T30, X30, e30, st30⟩ := getF X28 hx hZ hown (host := "") (Or.inl (W 39 rfl)) Via.refl e28 f29 (g := (mkF m 14 #[.val (.ref a1), .val (.ref a2)] [(.ref a1), (.long (c1 + c2)), (.ref b23), (.ref b23)])) rfl rfl (hb hby dx_prog_35_method_2_code_14)
  have f31 := (F_windowed_a2.ext E23)
  obtain ⟨T32, X32, e32, st32⟩ := getF X30 hx hZ hown (host := "") (Or.inl (W 39 rfl)) Via.refl e30 f31 (g := (mkF m 18 #[.val (.ref a1), .val (.ref a2)] [(.ref a2), (.long v1), (.long (c1 + c2)), (.ref b23), (.ref b23)])) rfl rfl (hb hby dx_prog_35_method_2_code_18)
  have f33 := (F_errors_a1.ext E23)
  obtain ⟨T34, X34, e34, st34⟩ := getF X32 hx hZ hown (host := "") (Or.inl (W 41 rfl)) Via.refl e32 f33 (g := (mkF m 23 #[.val (.ref a1), .val (.ref a2)] [(.ref a1), (.long (v1 + v2)), (.long (c1 + c2)), (.ref b23), (.ref b23)])) rfl rfl (hb hby dx_prog_35_method_2_code_23)
  have f35 := (F_errors_a2.ext E23)
  obtain ⟨T36, X36, e36, st36⟩ := getF X34 hx hZ hown (host := "") (Or.inl (W 41 rfl)) Via.refl e34 f35 (g := (mkF m 27 #[.val (.ref a1), .val (.ref a2)] [(.ref a2), (.long e1), (.long (v1 + v2)), (.long (c1 + c2)), (.ref b23), (.ref b23)])) rfl rfl (hb hby dx_prog_35_method_2_code_27)
  have f37 := (F_firstError_a1.ext E23)
  obtain ⟨T38, X38, e38, st38⟩ := getF X36 hx hZ hown (host := "") (Or.inl (W 43 rfl)) Via.refl e36 f37 (g := (mkF m 32 #[.val (.ref a1), .val (.ref a2)] [(.ref a1), (.long (e1 + e2)), (.long (v1 + v2)), (.long (c1 + c2)), (.ref b23), (.ref b23)])) rfl rfl (hb hby dx_prog_35_method_2_code_32)
  have f39 := (F_firstError_a2.ext E23)
  obtain ⟨T40, X40, e40, st40⟩ := getF X38 hx hZ hown (host := "") (Or.inl (W 43 rfl)) Via.refl e38 f39 (g := (mkF m 39 #[.val (.ref a1), .val (.ref a2)] [(.ref a2), (.long (e1 + e2)), (.long (v1 + v2)), (.long (c1 + c2)), (.ref b23), (.ref b23)])) rfl rfl (hb hby dx_prog_35_method_2_code_39)
  -- pc 49: com/example/armor_for_retries/armorforretries/bench/Tally.<init>
  obtain ⟨_, _, ⟨T41, L41, k41, n41⟩, -, X41, ⟨Lc41, hQ41, l41, y41, z41⟩, st41⟩ := X40.specialBack hx (y := y0) rfl hown (mvT hZ (W 52 rfl)) (mvT hZ (W 34 rfl)) (mvT hZ (W 35 rfl)) (by decide) (backOf (W := 1) (rmTI l Z a0 G1 hG [] b23 (c1 + c2) (v1 + v2) (e1 + e2) u2 h23 n0 Z24 O24 A23 F_created_b23 F_windowed_b23 F_errors_b23 F_firstError_b23 g_b23 ru) hZ (W 35 rfl) (W 32 rfl) (by decide) (by decide)) (g := (mkF m 49 #[.val (.ref a1), .val (.ref a2)] [u2, (.long (e1 + e2)), (.long (v1 + v2)), (.long (c1 + c2)), (.ref b23), (.ref b23)])) rfl (by rw [hml]; rfl) (Steps.refl _) (a := b23) (argsL := [(.long (c1 + c2)), (.long (v1 + v2)), (.long (e1 + e2)), u2]) (rest := [(.ref b23)]) (lenOf pd__JJJLjava_lang_String__V rfl) rfl (by show 2 * 0 + _ ≤ _; exact Nat.le_of_eq rfl) (hb hby dx_prog_35_method_2_code_49) (fun _ _ => ⟨rfl, e40, (by decide : 1 + 0 ≤ _), (by decide : 4 + 0 ≤ _)⟩)
  dsimp only [Pt.U, Pt.locs, Pt.cells, Pt.slots] at X41 l41 y41 z41 st41 hQ41
  subst l41 y41 z41
  obtain ⟨rfl, N41q, K41, f41_0, f41_1, f41_2, f41_3, f41_4⟩ := hQ41
  have N41 := Fr.app N0 N41q
  have Z42 : n0 ≤ T41.heap.size := Nat.le_trans Z24 K41.1
  have K0_42 : Keep h0 T41.heap [] := K0_24.trans K41 (allS (Or.inr l0_b23) all0)
  have O42 : Old Z n0 T41.heap := O24.keep K41 (allS g_b23 all0)
  obtain ⟨fs, hr, hrun, hended, hW, hsame⟩ := X41.leave (v := some (.ref b23)) (fun h => by rw [Bd.returns] at h; cases h)
  refine ⟨_, _, pre0 _ ?_, hrun, hended, _, _, rfl, ?_, ⟨_, rfl⟩, hW, hsame.mono (Nat.le_of_ble_eq_true rfl) (Nat.le_of_ble_eq_true rfl)⟩
  · show Steps p.tables e below (s₁.setTop (mkF m 0 #[.val (.ref a1), .val (.ref a2)] [])) _
    refine st23 _ ?_
    show Steps p.tables e below (T23.setTop (mkF m 3 #[.val (.ref a1), .val (.ref a2)] [(.ref b23)])) _
    refine XS.dup X23.here hx rfl (hb hby dx_prog_35_method_2_code_3) rfl rfl ?_
    show Steps p.tables e below (T23.setTop (mkF m 4 #[.val (.ref a1), .val (.ref a2)] [(.ref b23), (.ref b23)])) _
    refine XS.aloadN X23.here hx rfl (hb hby dx_prog_35_method_2_code_4) rfl rfl ?_
    show Steps p.tables e below (T23.setTop (mkF m 5 #[.val (.ref a1), .val (.ref a2)] [(.ref a1), (.ref b23), (.ref b23)])) _
    refine st26 _ ?_
    show Steps p.tables e below (T26.setTop (mkF m 8 #[.val (.ref a1), .val (.ref a2)] [(.long c1), (.ref b23), (.ref b23)])) _
    refine XS.aloadN X26.here hx rfl (hb hby dx_prog_35_method_2_code_8) rfl rfl ?_
    show Steps p.tables e below (T26.setTop (mkF m 9 #[.val (.ref a1), .val (.ref a2)] [(.ref a2), (.long c1), (.ref b23), (.ref b23)])) _
    refine st28 _ ?_
    show Steps p.tables e below (T28.setTop (mkF m 12 #[.val (.ref a1), .val (.ref a2)] [(.long c2), (.long c1), (.ref b23), (.ref b23)])) _
    refine XS.ladd X28.here hx rfl (hb hby dx_prog_35_method_2_code_12) rfl ?_
    show Steps p.tables e below (T28.setTop (mkF m 13 #[.val (.ref a1), .val (.ref a2)] [(.long (c1 + c2)), (.ref b23), (.ref b23)])) _
    refine XS.aloadN X28.here hx rfl (hb hby dx_prog_35_method_2_code_13) rfl rfl ?_
    show Steps p.tables e below (T28.setTop (mkF m 14 #[.val (.ref a1), .val (.ref a2)] [(.ref a1), (.long (c1 + c2)), (.ref b23), (.ref b23)])) _
    refine st30 _ ?_
    show Steps p.tables e below (T30.setTop (mkF m 17 #[.val (.ref a1), .val (.ref a2)] [(.long v1), (.long (c1 + c2)), (.ref b23), (.ref b23)])) _
    refine XS.aloadN X30.here hx rfl (hb hby dx_prog_35_method_2_code_17) rfl rfl ?_
    show Steps p.tables e below (T30.setTop (mkF m 18 #[.val (.ref a1), .val (.ref a2)] [(.ref a2), (.long v1), (.long (c1 + c2)), (.ref b23), (.ref b23)])) _
    refine st32 _ ?_
    show Steps p.tables e below (T32.setTop (mkF m 21 #[.val (.ref a1), .val (.ref a2)] [(.long v2), (.long v1), (.long (c1 + c2)), (.ref b23), (.ref b23)])) _
    refine XS.ladd X32.here hx rfl (hb hby dx_prog_35_method_2_code_21) rfl ?_
    show Steps p.tables e below (T32.setTop (mkF m 22 #[.val (.ref a1), .val (.ref a2)] [(.long (v1 + v2)), (.long (c1 + c2)), (.ref b23), (.ref b23)])) _
    refine XS.aloadN X32.here hx rfl (hb hby dx_prog_35_method_2_code_22) rfl rfl ?_
    show Steps p.tables e below (T32.setTop (mkF m 23 #[.val (.ref a1), .val (.ref a2)] [(.ref a1), (.long (v1 + v2)), (.long (c1 + c2)), (.ref b23), (.ref b23)])) _
    refine st34 _ ?_
    show Steps p.tables e below (T34.setTop (mkF m 26 #[.val (.ref a1), .val (.ref a2)] [(.long e1), (.long (v1 + v2)), (.long (c1 + c2)), (.ref b23), (.ref b23)])) _
    refine XS.aloadN X34.here hx rfl (hb hby dx_prog_35_method_2_code_26) rfl rfl ?_
    show Steps p.tables e below (T34.setTop (mkF m 27 #[.val (.ref a1), .val (.ref a2)] [(.ref a2), (.long e1), (.long (v1 + v2)), (.long (c1 + c2)), (.ref b23), (.ref b23)])) _
    refine st36 _ ?_
    show Steps p.tables e below (T36.setTop (mkF m 30 #[.val (.ref a1), .val (.ref a2)] [(.long e2), (.long e1), (.long (v1 + v2)), (.long (c1 + c2)), (.ref b23), (.ref b23)])) _
    refine XS.ladd X36.here hx rfl (hb hby dx_prog_35_method_2_code_30) rfl ?_
    show Steps p.tables e below (T36.setTop (mkF m 31 #[.val (.ref a1), .val (.ref a2)] [(.long (e1 + e2)), (.long (v1 + v2)), (.long (c1 + c2)), (.ref b23), (.ref b23)])) _
    refine XS.aloadN X36.here hx rfl (hb hby dx_prog_35_method_2_code_31) rfl rfl ?_
    show Steps p.tables e below (T36.setTop (mkF m 32 #[.val (.ref a1), .val (.ref a2)] [(.ref a1), (.long (e1 + e2)), (.long (v1 + v2)), (.long (c1 + c2)), (.ref b23), (.ref b23)])) _
    refine st38 _ ?_
    show Steps p.tables e below (T38.setTop (mkF m 35 #[.val (.ref a1), .val (.ref a2)] [.null, (.long (e1 + e2)), (.long (v1 + v2)), (.long (c1 + c2)), (.ref b23), (.ref b23)])) _
    refine XS.ifnonnullNo X38.here hx rfl (hb hby dx_prog_35_method_2_code_35) rfl ?_
    show Steps p.tables e below (T38.setTop (mkF m 38 #[.val (.ref a1), .val (.ref a2)] [(.long (e1 + e2)), (.long (v1 + v2)), (.long (c1 + c2)), (.ref b23), (.ref b23)])) _
    refine XS.aloadN X38.here hx rfl (hb hby dx_prog_35_method_2_code_38) rfl rfl ?_
    show Steps p.tables e below (T38.setTop (mkF m 39 #[.val (.ref a1), .val (.ref a2)] [(.ref a2), (.long (e1 + e2)), (.long (v1 + v2)), (.long (c1 + c2)), (.ref b23), (.ref b23)])) _
    refine st40 _ ?_
    show Steps p.tables e below (T40.setTop (mkF m 42 #[.val (.ref a1), .val (.ref a2)] [u2, (.long (e1 + e2)), (.long (v1 + v2)), (.long (c1 + c2)), (.ref b23), (.ref b23)])) _
    refine XS.goto X40.here hx rfl (pc0 := 42) (pc' := 49) rfl (hb hby dx_prog_35_method_2_code_42) (by decide) (by decide) ?_
    show Steps p.tables e below (T40.setTop (mkF m 49 #[.val (.ref a1), .val (.ref a2)] [u2, (.long (e1 + e2)), (.long (v1 + v2)), (.long (c1 + c2)), (.ref b23), (.ref b23)])) _
    refine st41.trans ?_
    show Steps p.tables e below (T41.setTop (mkF m 52 #[.val (.ref a1), .val (.ref a2)] [(.ref b23)])) _
    exact retOut X41 hx Bd.returns rfl (Or.inr (Or.inr (Or.inr (Or.inr ⟨rfl, rfl, rfl⟩)))) (hb hby dx_prog_35_method_2_code_52) hr
  · show QplusN Z G1 a1 a2 c1 v1 e1 c2 v2 e2 u2 h0 n0 _ T41.heap _
    exact ⟨b23, rfl, N41, K0_42, l0_b23, f41_0, f41_1, f41_3, f41_4⟩
theorem dx_prog_35_method_2_code_45 : decode prog_35_method_2_code 45 = .ok (.aload_n 0, 1) := by decide +kernel
theorem dx_prog_35_method_2_code_46 : decode prog_35_method_2_code 46 = .ok (.getfield 19, 3) := by decide +kernel
def QplusR (Z : State) (G1 : Int32) (a1 : Addr) (a2 : Addr) (c1 : Int64) (v1 : Int64) (e1 : Int64) (c2 : Int64) (v2 : Int64) (e2 : Int64) (w : Addr) (u2 : Value) (h0 : Heap) (n0 : Nat) (v : Option Value) (h : Heap) (L : List Loc) : Prop := ∃ b : Addr, v = some (.ref b) ∧ Fr n0 L ∧ Keep h0 h [] ∧ h0.size ≤ b ∧ Exa Z h b "com/example/armor_for_retries/armorforretries/bench/Tally" ∧ Fld Z h b "com/example/armor_for_retries/armorforretries/bench/Tally" "created" "J" (.long (c1 + c2)) ∧ Fld Z h b "com/example/armor_for_retries/armorforretries/bench/Tally" "errors" "J" (.long (e1 + e2)) ∧ Fld Z h b "com/example/armor_for_retries/armorforretries/bench/Tally" "firstError" "Ljava/lang/String;" (.ref w)
set_option maxRecDepth 65536 in
set_option maxHeartbeats 40000000 in
theorem rmplusR (l : Launch) (Z : State) (a0 : Array Value) (G1 : Int32) (hG : Glob Z a0 G1) (ws : List Jvm.Cond) (a1 : Addr) (a2 : Addr) (c1 : Int64) (v1 : Int64) (e1 : Int64) (c2 : Int64) (v2 : Int64) (e2 : Int64) (w : Addr) (u2 : Value) (h0 : Heap) (n0 : Nat) (Z0 : n0 ≤ h0.size) (X00 : Old Z n0 h0) (E_a1 : Exa Z h0 a1 "com/example/armor_for_retries/armorforretries/bench/Tally") (F_created_a1 : Fld Z h0 a1 "com/example/armor_for_retries/armorforretries/bench/Tally" "created" "J" (.long c1)) (F_windowed_a1 : Fld Z h0 a1 "com/example/armor_for_retries/armorforretries/bench/Tally" "windowed" "J" (.long v1)) (F_errors_a1 : Fld Z h0 a1 "com/example/armor_for_retries/armorforretries/bench/Tally" "errors" "J" (.long e1)) (F_firstError_a1 : Fld Z h0 a1 "com/example/armor_for_retries/armorforretries/bench/Tally" "firstError" "Ljava/lang/String;" (.ref w)) (E_a2 : Exa Z h0 a2 "com/example/armor_for_retries/armorforretries/bench/Tally") (F_created_a2 : Fld Z h0 a2 "com/example/armor_for_retries/armorforretries/bench/Tally" "created" "J" (.long c2)) (F_windowed_a2 : Fld Z h0 a2 "com/example/armor_for_retries/armorforretries/bench/Tally" "windowed" "J" (.long v2)) (F_errors_a2 : Fld Z h0 a2 "com/example/armor_for_retries/armorforretries/bench/Tally" "errors" "J" (.long e2)) (F_firstError_a2 : Fld Z h0 a2 "com/example/armor_for_retries/armorforretries/bench/Tally" "firstError" "Ljava/lang/String;" u2) (ru : u2.isRef = true) :
    MetFree l y4 (head1 (Jvm.Cond.code y4 prog_35_method_2_code 2 (some (.object "com/example/armor_for_retries/armorforretries/bench/Tally")) :: ws) ({ frames := 2, cells := 1, slots := 4, locals := 32 } : Room)) (fun a U => a = #[(.ref a1), (.ref a2)] ∧ Z.Warmed39 U.vm ∧ U.heap = h0) (fun _ _ _ _ _ => True) (fun _ U o U' => ∃ v L, o = .returned v ∧ QplusR Z G1 a1 a2 c1 v1 e1 c2 v2 e2 w u2 h0 n0 v U'.heap L ∧ FrameEnd U o U' L ({ frames := 2, cells := 1, slots := 4, locals := 32 } : Room).cells ({ frames := 2, cells := 1, slots := 4, locals := 32 } : Room).slots) := by
  obtain ⟨hw, O_cs, P_cs⟩ := id hG
  have W : ∀ (i : Nat) {d : Jvm.Cond}, tables_1[i]? = some d → d.before a0 Z = true := fun i d h => hw d (List.mem_of_getElem? h)
  refine MetFree.of_bodySF (plainFor_of_name pn_com_example_armor_for_retries_armorforretries_bench_Tally) hisR ?_
  intro p e s m args below meth c s₁ Bd hml0 hP hK
  obtain ⟨rfl, hZ, hh⟩ := hP
  have hx := Bd.exec
  have hby := Bd.bytes
  have hml : c.maxLocals = 2 := hml0
  have hown : s.vm.findClass "com/example/armor_for_retries/armorforretries/bench/Tally" = some m.cls := findClass_of_methodNamed Bd.named
  have hnm := (name_of_methodNamed Bd.named Bd.method).1
  have X0 : Stand p l e ({ frames := 2, cells := 1, slots := 4, locals := 32 } : Room) s m #[(.ref a1), (.ref a2)] below meth c s₁ [] 0 0 := Stand.of_body Bd
  have e0 : s₁.heap = h0 := by rw [← hh, Bd.state]; rfl
  have N0 := Fr.nil n0
  have pre0 : ∀ t, Steps p.tables e below (s₁.setTop (mkF m 0 #[.val (.ref a1), .val (.ref a2)] [])) t → Steps p.tables e below (s₁.setTop (entryFrame m #[(.ref a1), (.ref a2)] 2)) t := fun t k => castTop (ef_prog_35_method_2_code_RR m a1 a2) k
  obtain ⟨T43, h43, X43, e43, E43, A43, D43, -, st43⟩ := newO X0 hx hZ hown (W 51 rfl) (W 31 rfl) (W 32 rfl) e0 (g := (mkF m 0 #[.val (.ref a1), .val (.ref a2)] [])) rfl (hb hby dx_prog_35_method_2_code_0) (by decide) (by decide)
  obtain ⟨b43, g43⟩ : ∃ z, z = h0.size := ⟨_, rfl⟩
  rw [← g43] at A43 D43 st43
  have Z44 : n0 ≤ h43.size := Nat.le_trans Z0 E43.1
  have K0_44 : Keep h0 h43 [] := (Keep.refl h0 []).ext E43
  have O44 : Old Z n0 h43 := X00.ext E43
  have lo_b43 : h0.size ≤ b43 := Nat.le_of_eq g43.symm
  have g_b43 : n0 ≤ b43 := Nat.le_trans Z0 lo_b43
  have l0_b43 : h0.size ≤ b43 := Nat.le_trans (Keep.refl h0 []).1 lo_b43
  have F_created_b43 : Fld Z h43 b43 "com/example/armor_for_retries/armorforretries/bench/Tally" "created" "J" (.long (0 : Int64)) := D43 (Or.inr (W 38 rfl)) (ty := .long) (by decide)
  have F_windowed_b43 : Fld Z h43 b43 "com/example/armor_for_retries/armorforretries/bench/Tally" "windowed" "J" (.long (0 : Int64)) := D43 (Or.inr (W 40 rfl)) (ty := .long) (by decide)
  have F_errors_b43 : Fld Z h43 b43 "com/example/armor_for_retries/armorforretries/bench/Tally" "errors" "J" (.long (0 : Int64)) := D43 (Or.inr (W 42 rfl)) (ty := .long) (by decide)
  have F_firstError_b43 : Fld Z h43 b43 "com/example/armor_for_retries/armorforretries/bench/Tally" "firstError" "Ljava/lang/String;" .null := D43 (Or.inr (W 44 rfl)) (ty := (.object "java/lang/String")) (by decide)
  have f45 := (F_created_a1.ext E43)
  obtain ⟨T46, X46, e46, st46⟩ := getF X43 hx hZ hown (host := "") (Or.inl (W 37 rfl)) Via.refl e43 f45 (g := (mkF m 5 #[.val (.ref a1), .val (.ref a2)] [(.ref a1), (.ref b43), (.ref b43)])) rfl rfl (hb hby dx_prog_35_method_2_code_5)
  have f47 := (F_created_a2.ext E43)
  obtain ⟨T48, X48, e48, st48⟩ := getF X46 hx hZ hown (host := "") (Or.inl (W 37 rfl)) Via.refl e46 f47 (g := (mkF m 9 #[.val (.ref a1), .val (.ref a2)] [(.ref a2), (.long c1), (.ref b43), (.ref b43)])) rfl rfl (hb hby dx_prog_35_method_2_code_9)
  have f49 := (F_windowed_a1.ext E43)
  obtain ⟨T50, X50, e50, st50⟩ := getF X48 hx hZ hown (host := "") (Or.inl (W 39 rfl)) Via.refl e48 f49 (g := (mkF m 14 #[.val (.ref a1), .val (.ref a2)] [(.ref a1), (.long (c1 + c2)), (.ref b43), (.ref b43)])) rfl rfl (hb hby dx_prog_35_method_2_code_14)
  have f51 := (F_windowed_a2.ext E43)
  obtain ⟨T52, X52, e52, st52⟩ := getF X50 hx hZ hown (host := "") (Or.inl (W 39 rfl)) Via.refl e50 f51 (g := (mkF m 18 #[.val (.ref a1), .val (.ref a2)] [(.ref a2), (.long v1), (.long (c1 + c2)), (.ref b43), (.ref b43)])) rfl rfl (hb hby dx_prog_35_method_2_code_18)
  have f53 := (F_errors_a1.ext E43)
  obtain ⟨T54, X54, e54, st54⟩ := getF X52 hx hZ hown (host := "") (Or.inl (W 41 rfl)) Via.refl e52 f53 (g := (mkF m 23 #[.val (.ref a1), .val (.ref a2)] [(.ref a1), (.long (v1 + v2)), (.long (c1 + c2)), (.ref b43), (.ref b43)])) rfl rfl (hb hby dx_prog_35_method_2_code_23)
  have f55 := (F_errors_a2.ext E43)
  obtain ⟨T56, X56, e56, st56⟩ := getF X54 hx hZ hown (host := "") (Or.inl (W 41 rfl)) Via.refl e54 f55 (g := (mkF m 27 #[.val (.ref a1), .val (.ref a2)] [(.ref a2), (.long e1), (.long (v1 + v2)), (.long (c1 + c2)), (.ref b43), (.ref b43)])) rfl rfl (hb hby dx_prog_35_method_2_code_27)
  have f57 := (F_firstError_a1.ext E43)
  obtain ⟨T58, X58, e58, st58⟩ := getF X56 hx hZ hown (host := "") (Or.inl (W 43 rfl)) Via.refl e56 f57 (g := (mkF m 32 #[.val (.ref a1), .val (.ref a2)] [(.ref a1), (.long (e1 + e2)), (.long (v1 + v2)), (.long (c1 + c2)), (.ref b43), (.ref b43)])) rfl rfl (hb hby dx_prog_35_method_2_code_32)
  obtain ⟨T59, X59, e59, st59⟩ := getF X58 hx hZ hown (host := "") (Or.inl (W 43 rfl)) Via.refl e58 f57 (g := (mkF m 46 #[.val (.ref a1), .val (.ref a2)] [(.ref a1), (.long (e1 + e2)), (.long (v1 + v2)), (.long (c1 + c2)), (.ref b43), (.ref b43)])) rfl rfl (hb hby dx_prog_35_method_2_code_46)
  -- pc 49: com/example/armor_for_retries/armorforretries/bench/Tally.<init>
  obtain ⟨_, _, ⟨T60, L60, k60, n60⟩, -, X60, ⟨Lc60, hQ60, l60, y60, z60⟩, st60⟩ := X59.specialBack hx (y := y0) rfl hown (mvT hZ (W 52 rfl)) (mvT hZ (W 34 rfl)) (mvT hZ (W 35 rfl)) (by decide) (backOf (W := 1) (rmTI l Z a0 G1 hG [] b43 (c1 + c2) (v1 + v2) (e1 + e2) (.ref w) h43 n0 Z44 O44 A43 F_created_b43 F_windowed_b43 F_errors_b43 F_firstError_b43 g_b43 rfl) hZ (W 35 rfl) (W 32 rfl) (by decide) (by decide)) (g := (mkF m 49 #[.val (.ref a1), .val (.ref a2)] [(.ref w), (.long (e1 + e2)), (.long (v1 + v2)), (.long (c1 + c2)), (.ref b43), (.ref b43)])) rfl (by rw [hml]; rfl) (Steps.refl _) (a := b43) (argsL := [(.long (c1 + c2)), (.long (v1 + v2)), (.long (e1 + e2)), (.ref w)]) (rest := [(.ref b43)]) (lenOf pd__JJJLjava_lang_String__V rfl) rfl (by show 2 * 0 + _ ≤ _; exact Nat.le_of_eq rfl) (hb hby dx_prog_35_method_2_code_49) (fun _ _ => ⟨rfl, e59, (by decide : 1 + 0 ≤ _), (by decide : 4 + 0 ≤ _)⟩)
  dsimp only [Pt.U, Pt.locs, Pt.cells, Pt.slots] at X60 l60 y60 z60 st60 hQ60
  subst l60 y60 z60
  obtain ⟨rfl, N60q, K60, f60_0, f60_1, f60_2, f60_3, f60_4⟩ := hQ60
  have N60 := Fr.app N0 N60q
  have Z61 : n0 ≤ T60.heap.size := Nat.le_trans Z44 K60.1
  have K0_61 : Keep h0 T60.heap [] := K0_44.trans K60 (allS (Or.inr l0_b43) all0)
  have O61 : Old Z n0 T60.heap := O44.keep K60 (allS g_b43 all0)
  obtain ⟨fs, hr, hrun, hended, hW, hsame⟩ := X60.leave (v := some (.ref b43)) (fun h => by rw [Bd.returns] at h; cases h)
  refine ⟨_, _, pre0 _ ?_, hrun, hended, _, _, rfl, ?_, ⟨_, rfl⟩, hW, hsame.mono (Nat.le_of_ble_eq_true rfl) (Nat.le_of_ble_eq_true rfl)⟩
  · show Steps p.tables e below (s₁.setTop (mkF m 0 #[.val (.ref a1), .val (.ref a2)] [])) _
    refine st43 _ ?_
    show Steps p.tables e below (T43.setTop (mkF m 3 #[.val (.ref a1), .val (.ref a2)] [(.ref b43)])) _
    refine XS.dup X43.here hx rfl (hb hby dx_prog_35_method_2_code_3) rfl rfl ?_
    show Steps p.tables e below (T43.setTop (mkF m 4 #[.val (.ref a1), .val (.ref a2)] [(.ref b43), (.ref b43)])) _
    refine XS.aloadN X43.here hx rfl (hb hby dx_prog_35_method_2_code_4) rfl rfl ?_
    show Steps p.tables e below (T43.setTop (mkF m 5 #[.val (.ref a1), .val (.ref a2)] [(.ref a1), (.ref b43), (.ref b43)])) _
    refine st46 _ ?_
    show Steps p.tables e below (T46.setTop (mkF m 8 #[.val (.ref a1), .val (.ref a2)] [(.long c1), (.ref b43), (.ref b43)])) _
    refine XS.aloadN X46.here hx rfl (hb hby dx_prog_35_method_2_code_8) rfl rfl ?_
    show Steps p.tables e below (T46.setTop (mkF m 9 #[.val (.ref a1), .val (.ref a2)] [(.ref a2), (.long c1), (.ref b43), (.ref b43)])) _
    refine st48 _ ?_
    show Steps p.tables e below (T48.setTop (mkF m 12 #[.val (.ref a1), .val (.ref a2)] [(.long c2), (.long c1), (.ref b43), (.ref b43)])) _
    refine XS.ladd X48.here hx rfl (hb hby dx_prog_35_method_2_code_12) rfl ?_
    show Steps p.tables e below (T48.setTop (mkF m 13 #[.val (.ref a1), .val (.ref a2)] [(.long (c1 + c2)), (.ref b43), (.ref b43)])) _
    refine XS.aloadN X48.here hx rfl (hb hby dx_prog_35_method_2_code_13) rfl rfl ?_
    show Steps p.tables e below (T48.setTop (mkF m 14 #[.val (.ref a1), .val (.ref a2)] [(.ref a1), (.long (c1 + c2)), (.ref b43), (.ref b43)])) _
    refine st50 _ ?_
    show Steps p.tables e below (T50.setTop (mkF m 17 #[.val (.ref a1), .val (.ref a2)] [(.long v1), (.long (c1 + c2)), (.ref b43), (.ref b43)])) _
    refine XS.aloadN X50.here hx rfl (hb hby dx_prog_35_method_2_code_17) rfl rfl ?_
    show Steps p.tables e below (T50.setTop (mkF m 18 #[.val (.ref a1), .val (.ref a2)] [(.ref a2), (.long v1), (.long (c1 + c2)), (.ref b43), (.ref b43)])) _
    refine st52 _ ?_
    show Steps p.tables e below (T52.setTop (mkF m 21 #[.val (.ref a1), .val (.ref a2)] [(.long v2), (.long v1), (.long (c1 + c2)), (.ref b43), (.ref b43)])) _
    refine XS.ladd X52.here hx rfl (hb hby dx_prog_35_method_2_code_21) rfl ?_
    show Steps p.tables e below (T52.setTop (mkF m 22 #[.val (.ref a1), .val (.ref a2)] [(.long (v1 + v2)), (.long (c1 + c2)), (.ref b43), (.ref b43)])) _
    refine XS.aloadN X52.here hx rfl (hb hby dx_prog_35_method_2_code_22) rfl rfl ?_
    show Steps p.tables e below (T52.setTop (mkF m 23 #[.val (.ref a1), .val (.ref a2)] [(.ref a1), (.long (v1 + v2)), (.long (c1 + c2)), (.ref b43), (.ref b43)])) _
    refine st54 _ ?_
    show Steps p.tables e below (T54.setTop (mkF m 26 #[.val (.ref a1), .val (.ref a2)] [(.long e1), (.long (v1 + v2)), (.long (c1 + c2)), (.ref b43), (.ref b43)])) _
    refine XS.aloadN X54.here hx rfl (hb hby dx_prog_35_method_2_code_26) rfl rfl ?_
    show Steps p.tables e below (T54.setTop (mkF m 27 #[.val (.ref a1), .val (.ref a2)] [(.ref a2), (.long e1), (.long (v1 + v2)), (.long (c1 + c2)), (.ref b43), (.ref b43)])) _
    refine st56 _ ?_
    show Steps p.tables e below (T56.setTop (mkF m 30 #[.val (.ref a1), .val (.ref a2)] [(.long e2), (.long e1), (.long (v1 + v2)), (.long (c1 + c2)), (.ref b43), (.ref b43)])) _
    refine XS.ladd X56.here hx rfl (hb hby dx_prog_35_method_2_code_30) rfl ?_
    show Steps p.tables e below (T56.setTop (mkF m 31 #[.val (.ref a1), .val (.ref a2)] [(.long (e1 + e2)), (.long (v1 + v2)), (.long (c1 + c2)), (.ref b43), (.ref b43)])) _
    refine XS.aloadN X56.here hx rfl (hb hby dx_prog_35_method_2_code_31) rfl rfl ?_
    show Steps p.tables e below (T56.setTop (mkF m 32 #[.val (.ref a1), .val (.ref a2)] [(.ref a1), (.long (e1 + e2)), (.long (v1 + v2)), (.long (c1 + c2)), (.ref b43), (.ref b43)])) _
    refine st58 _ ?_
    show Steps p.tables e below (T58.setTop (mkF m 35 #[.val (.ref a1), .val (.ref a2)] [(.ref w), (.long (e1 + e2)), (.long (v1 + v2)), (.long (c1 + c2)), (.ref b43), (.ref b43)])) _
    refine XS.ifnonnullYes X58.here hx rfl (pc0 := 35) (pc' := 45) rfl (hb hby dx_prog_35_method_2_code_35) rfl (by decide) (by decide) ?_
    show Steps p.tables e below (T58.setTop (mkF m 45 #[.val (.ref a1), .val (.ref a2)] [(.long (e1 + e2)), (.long (v1 + v2)), (.long (c1 + c2)), (.ref b43), (.ref b43)])) _
    refine XS.aloadN X58.here hx rfl (hb hby dx_prog_35_method_2_code_45) rfl rfl ?_
    show Steps p.tables e below (T58.setTop (mkF m 46 #[.val (.ref a1), .val (.ref a2)] [(.ref a1), (.long (e1 + e2)), (.long (v1 + v2)), (.long (c1 + c2)), (.ref b43), (.ref b43)])) _
    refine st59 _ ?_
    show Steps p.tables e below (T59.setTop (mkF m 49 #[.val (.ref a1), .val (.ref a2)] [(.ref w), (.long (e1 + e2)), (.long (v1 + v2)), (.long (c1 + c2)), (.ref b43), (.ref b43)])) _
    refine st60.trans ?_
    show Steps p.tables e below (T60.setTop (mkF m 52 #[.val (.ref a1), .val (.ref a2)] [(.ref b43)])) _
    exact retOut X60 hx Bd.returns rfl (Or.inr (Or.inr (Or.inr (Or.inr ⟨rfl, rfl, rfl⟩)))) (hb hby dx_prog_35_method_2_code_52) hr
  · show QplusR Z G1 a1 a2 c1 v1 e1 c2 v2 e2 w u2 h0 n0 _ T60.heap _
    exact ⟨b43, rfl, N60, K0_61, l0_b43, f60_0, f60_1, f60_3, f60_4⟩
theorem pd__Lcom_example_armor_for_retries_armorforretries_bench_Tally__Lcom_example_armor_for_retries_armorforretries_bench_Tally_ : parseMethodDescriptor "(Lcom/example/armor_for_retries/armorforretries/bench/Tally;)Lcom/example/armor_for_retries/armorforretries/bench/Tally;" = some ⟨[(.object "com/example/armor_for_retries/armorforretries/bench/Tally")], some (.object "com/example/armor_for_retries/armorforretries/bench/Tally")⟩ := by decide +kernel
theorem pd___J : parseMethodDescriptor "()J" = some ⟨[], some .long⟩ := by decide +kernel
theorem pd___Ljava_lang_String_ : parseMethodDescriptor "()Ljava/lang/String;" = some ⟨[], some (.object "java/lang/String")⟩ := by decide +kernel
theorem pd___C_V : parseMethodDescriptor "([C)V" = some ⟨[(.array .char)], none⟩ := by decide +kernel
abbrev y5 : MethodName := ⟨"java/lang/String", "<init>", "([C)V"⟩
def Q0 (Z : State) (G1 : Int32) (q0 : Int64) (q1 : Int64) (q2 : Int64) (q3 : Int64) (q4 : Int64) (p5 : Int32) (h0 : Heap) (n0 : Nat) (v : Option Value) (h : Heap) (L : List Loc) : Prop := v = some (.int (1 : Int32)) ∧ Fr n0 L ∧ Keep h0 h []
theorem ef_code_JJJJJI (m : MethodId) (x0 : Int64) (x1 : Int64) (x2 : Int64) (x3 : Int64) (x4 : Int64) (x5 : Int32) : entryFrame m #[(.long x0), (.long x1), (.long x2), (.long x3), (.long x4), (.int x5)] maxLocals = mkF m 0 #[.val (.long x0), .second, .val (.long x1), .second, .val (.long x2), .second, .val (.long x3), .second, .val (.long x4), .second, .val (.int x5), .unset, .unset, .unset, .unset, .unset, .unset, .unset, .unset] [] := by first | (simp [entryFrame, mkF, argsToLocals, Value.category, maxLocals]; done) | rfl
theorem pn_com_example_armor_for_retries_armorforretries_bench_TallyPlusPinLaw : plainName "com/example/armor_for_retries/armorforretries/bench/TallyPlusPinLaw" = true := by first | (simp [plainName, overriddenIn]; done) | decide +kernel
set_option maxRecDepth 65536 in
set_option maxHeartbeats 40000000 in
theorem rm0_tt (l : Launch) (Z : State) (a0 : Array Value) (G1 : Int32) (hG : Glob Z a0 G1) (ws : List Jvm.Cond) (q0 : Int64) (q1 : Int64) (q2 : Int64) (q3 : Int64) (q4 : Int64) (p5 : Int32) (h0 : Heap) (n0 : Nat) (Z0 : n0 ≤ h0.size) (X00 : Old Z n0 h0) (hc40 : (p5 &&& (1 : Int32)) = (0 : Int32)) (hc62 : (p5 &&& (2 : Int32)) = (0 : Int32)) :
    MetFree l x (head1 (Jvm.Cond.code x code maxLocals ret :: ws) room_1) (fun a U => a = #[(.long q0), (.long q1), (.long q2), (.long q3), (.long q4), (.int p5)] ∧ Z.Warmed39 U.vm ∧ U.heap = h0) (fun _ _ _ _ _ => True) (fun _ U o U' => ∃ v L, o = .returned v ∧ Q0 Z G1 q0 q1 q2 q3 q4 p5 h0 n0 v U'.heap L ∧ FrameEnd U o U' L room_1.cells room_1.slots) := by
  obtain ⟨hw, O_cs, P_cs⟩ := id hG
  have W : ∀ (i : Nat) {d : Jvm.Cond}, tables_1[i]? = some d → d.before a0 Z = true := fun i d h => hw d (List.mem_of_getElem? h)
  refine MetFree.of_bodySF (plainFor_of_name pn_com_example_armor_for_retries_armorforretries_bench_TallyPlusPinLaw) hisR ?_
  intro p e s m args below meth c s₁ Bd hml0 hP hK
  obtain ⟨rfl, hZ, hh⟩ := hP
  have hx := Bd.exec
  have hby := Bd.bytes
  have hml : c.maxLocals = 19 := hml0
  have hown : s.vm.findClass "com/example/armor_for_retries/armorforretries/bench/TallyPlusPinLaw" = some m.cls := findClass_of_methodNamed Bd.named
  have hnm := (name_of_methodNamed Bd.named Bd.method).1
  have X0 : Stand p l e room_1 s m #[(.long q0), (.long q1), (.long q2), (.long q3), (.long q4), (.int p5)] below meth c s₁ [] 0 0 := Stand.of_body Bd
  have e0 : s₁.heap = h0 := by rw [← hh, Bd.state]; rfl
  have N0 := Fr.nil n0
  have pre0 : ∀ t, Steps p.tables e below (s₁.setTop (mkF m 0 #[.val (.long q0), .second, .val (.long q1), .second, .val (.long q2), .second, .val (.long q3), .second, .val (.long q4), .second, .val (.int p5), .unset, .unset, .unset, .unset, .unset, .unset, .unset, .unset] [])) t → Steps p.tables e below (s₁.setTop (entryFrame m #[(.long q0), (.long q1), (.long q2), (.long q3), (.long q4), (.int p5)] maxLocals)) t := fun t k => castTop (ef_code_JJJJJI m q0 q1 q2 q3 q4 p5) k
  obtain ⟨T62, h62, k62, X62, e62, E62, A62, st62⟩ := newP X0 hx hZ (W 0 rfl) e0 (g := (mkF m 1 #[.val (.long q0), .second, .val (.long q1), .second, .val (.long q2), .second, .val (.long q3), .second, .val (.long q4), .second, .val (.int p5), .unset, .unset, .unset, .unset, .unset, .unset, .unset, .unset] [(.int (1 : Int32))])) rfl (hb hby at_1) rfl (by decide) (cap := 1) (by decide) (by decide) (by decide) (by decide)
  obtain ⟨b62, g62⟩ : ∃ z, z = h0.size := ⟨_, rfl⟩
  rw [← g62] at A62 st62
  have Z63 : n0 ≤ h62.size := Nat.le_trans Z0 E62.1
  have K0_63 : Keep h0 h62 [] := (Keep.refl h0 []).ext E62
  have O63 : Old Z n0 h62 := X00.ext E62
  have lo_b62 : h0.size ≤ b62 := Nat.le_of_eq g62.symm
  have g_b62 : n0 ≤ b62 := Nat.le_trans Z0 lo_b62
  have l0_b62 : h0.size ≤ b62 := Nat.le_trans (Keep.refl h0 []).1 lo_b62
  have V_b62 : Arv Z h62 b62 k62 .char (1 : Int32) [(.int (0 : Int32))] (.int (0 : Int32)) := (Arv.new A62 (by decide)).pad (pad_rep [] (.int (0 : Int32)) 1)
  obtain ⟨clq64, Arq64, qaq64, Sq64, Nq64, Hq64, Gq64⟩ := id V_b62
  have hinq64 : ¬ ((0 : Int32) < 0 ∨ clq64.slots.size ≤ ((0 : Int32)).toNatClampNeg) := inb_of Sq64 ⟨by decide, by decide⟩
  obtain ⟨T65, h65, X65, e65, W65, st65⟩ := stC X62 hx hZ e62 Arq64 (j := (0 : Int32)) hinq64 (g := (mkF m 15 #[.val (.long q0), .second, .val (.long q1), .second, .val (.long q2), .second, .val (.long q3), .second, .val (.long q4), .second, .val (.int p5), .unset, .unset, .unset, .unset, .unset, .unset, .unset, .unset] [(.int ((((p5.toUInt32 >>> ((8 : Int32) &&& 31).toUInt32).toInt32) &&& (255 : Int32)).toUInt32.toUInt16.toUInt32.toInt32)), (.int (0 : Int32)), (.ref b62), (.ref b62)])) rfl rfl (hb hby at_15)
  have V65 : Arv Z h65 b62 k62 .char (1 : Int32) [(.int (nar .char ((((p5.toUInt32 >>> ((8 : Int32) &&& 31).toUInt32).toInt32) &&& (255 : Int32)).toUInt32.toUInt16.toUInt32.toInt32)))] (.int (0 : Int32)) := Arv.set Arq64 qaq64 Sq64 Nq64 Hq64 Gq64 (fits_nar_char _) W65 0 rfl (Nat.le_of_ble_eq_true rfl)
  have Z66 : n0 ≤ h65.size := Nat.le_trans Z63 (Keep.of_wr W65).1
  have K0_66 : Keep h0 h65 [] := K0_63.wr W65 (Or.inr l0_b62)
  have O66 : Old Z n0 h65 := O63.wr W65 g_b62
  have N65 := Fr.snoc X65 N0 g_b62
  obtain ⟨T67, h67, k67, X67, e67, E67, A67, st67⟩ := newP X65 hx hZ (W 0 rfl) e65 (g := (mkF m 19 #[.val (.long q0), .second, .val (.long q1), .second, .val (.long q2), .second, .val (.long q3), .second, .val (.long q4), .second, .val (.int p5), .val (.ref b62), .unset, .unset, .unset, .unset, .unset, .unset, .unset] [(.int (1 : Int32))])) rfl (hb hby at_19) rfl (by decide) (cap := 1) (by decide) (by decide) (by decide) (by decide)
  obtain ⟨b67, g67⟩ : ∃ z, z = h65.size := ⟨_, rfl⟩
  rw [← g67] at A67 st67
  have Z68 : n0 ≤ h67.size := Nat.le_trans Z66 E67.1
  have K0_68 : Keep h0 h67 [] := K0_66.ext E67
  have O68 : Old Z n0 h67 := O66.ext E67
  have lo_b67 : h65.size ≤ b67 := Nat.le_of_eq g67.symm
  have g_b67 : n0 ≤ b67 := Nat.le_trans Z66 lo_b67
  have l0_b67 : h0.size ≤ b67 := Nat.le_trans K0_66.1 lo_b67
  have V_b67 : Arv Z h67 b67 k67 .char (1 : Int32) [(.int (0 : Int32))] (.int (0 : Int32)) := (Arv.new A67 (by decide)).pad (pad_rep [] (.int (0 : Int32)) 1)
  obtain ⟨clq69, Arq69, qaq69, Sq69, Nq69, Hq69, Gq69⟩ := id V_b67
  have hinq69 : ¬ ((0 : Int32) < 0 ∨ clq69.slots.size ≤ ((0 : Int32)).toNatClampNeg) := inb_of Sq69 ⟨by decide, by decide⟩
  obtain ⟨T70, h70, X70, e70, W70, st70⟩ := stC X67 hx hZ e67 Arq69 (j := (0 : Int32)) hinq69 (g := (mkF m 33 #[.val (.long q0), .second, .val (.long q1), .second, .val (.long q2), .second, .val (.long q3), .second, .val (.long q4), .second, .val (.int p5), .val (.ref b62), .unset, .unset, .unset, .unset, .unset, .unset, .unset] [(.int ((((p5.toUInt32 >>> ((16 : Int32) &&& 31).toUInt32).toInt32) &&& (255 : Int32)).toUInt32.toUInt16.toUInt32.toInt32)), (.int (0 : Int32)), (.ref b67), (.ref b67)])) rfl rfl (hb hby at_33)
  have V70 : Arv Z h70 b67 k67 .char (1 : Int32) [(.int (nar .char ((((p5.toUInt32 >>> ((16 : Int32) &&& 31).toUInt32).toInt32) &&& (255 : Int32)).toUInt32.toUInt16.toUInt32.toInt32)))] (.int (0 : Int32)) := Arv.set Arq69 qaq69 Sq69 Nq69 Hq69 Gq69 (fits_nar_char _) W70 0 rfl (Nat.le_of_ble_eq_true rfl)
  have Z71 : n0 ≤ h70.size := Nat.le_trans Z68 (Keep.of_wr W70).1
  have K0_71 : Keep h0 h70 [] := K0_68.wr W70 (Or.inr l0_b67)
  have O71 : Old Z n0 h70 := O68.wr W70 g_b67
  have N70 := Fr.snoc X70 N65 g_b67
  obtain ⟨T72, h72, X72, e72, E72, A72, D72, -, st72⟩ := newO X70 hx hZ hown (W 30 rfl) (W 31 rfl) (W 32 rfl) e70 (g := (mkF m 80 #[.val (.long q0), .second, .val (.long q1), .second, .val (.long q2), .second, .val (.long q3), .second, .val (.long q4), .second, .val (.int p5), .val (.ref b62), .val (.ref b67), .val .null, .val .null, .unset, .unset, .unset, .unset] [])) rfl (hb hby at_80) (by decide) (by decide)
  obtain ⟨b72, g72⟩ : ∃ z, z = h70.size := ⟨_, rfl⟩
  rw [← g72] at A72 D72 st72
  have Z73 : n0 ≤ h72.size := Nat.le_trans Z71 E72.1
  have K0_73 : Keep h0 h72 [] := K0_71.ext E72
  have O73 : Old Z n0 h72 := O71.ext E72
  have lo_b72 : h70.size ≤ b72 := Nat.le_of_eq g72.symm
  have g_b72 : n0 ≤ b72 := Nat.le_trans Z71 lo_b72
  have l0_b72 : h0.size ≤ b72 := Nat.le_trans K0_71.1 lo_b72
  have F_created_b72 : Fld Z h72 b72 "com/example/armor_for_retries/armorforretries/bench/Tally" "created" "J" (.long (0 : Int64)) := D72 (Or.inr (W 38 rfl)) (ty := .long) (by decide)
  have F_windowed_b72 : Fld Z h72 b72 "com/example/armor_for_retries/armorforretries/bench/Tally" "windowed" "J" (.long (0 : Int64)) := D72 (Or.inr (W 40 rfl)) (ty := .long) (by decide)
  have F_errors_b72 : Fld Z h72 b72 "com/example/armor_for_retries/armorforretries/bench/Tally" "errors" "J" (.long (0 : Int64)) := D72 (Or.inr (W 42 rfl)) (ty := .long) (by decide)
  have F_firstError_b72 : Fld Z h72 b72 "com/example/armor_for_retries/armorforretries/bench/Tally" "firstError" "Ljava/lang/String;" .null := D72 (Or.inr (W 44 rfl)) (ty := (.object "java/lang/String")) (by decide)
  -- pc 91: com/example/armor_for_retries/armorforretries/bench/Tally.<init>
  obtain ⟨_, _, ⟨T74, L74, k74, n74⟩, -, X74, ⟨Lc74, hQ74, l74, y74, z74⟩, st74⟩ := X72.specialBack hx (y := y0) rfl hown (mvT hZ (W 33 rfl)) (mvT hZ (W 34 rfl)) (mvT hZ (W 35 rfl)) (by decide) (backOf (W := 1) (rmTI l Z a0 G1 hG [] b72 q0 q4 q2 .null h72 n0 Z73 O73 A72 F_created_b72 F_windowed_b72 F_errors_b72 F_firstError_b72 g_b72 rfl) hZ (W 35 rfl) (W 32 rfl) (by decide) (by decide)) (g := (mkF m 91 #[.val (.long q0), .second, .val (.long q1), .second, .val (.long q2), .second, .val (.long q3), .second, .val (.long q4), .second, .val (.int p5), .val (.ref b62), .val (.ref b67), .val .null, .val .null, .unset, .unset, .unset, .unset] [.null, (.long q2), (.long q4), (.long q0), (.ref b72), (.ref b72)])) rfl (by rw [hml]; rfl) (Steps.refl _) (a := b72) (argsL := [(.long q0), (.long q4), (.long q2), .null]) (rest := [(.ref b72)]) (lenOf pd__JJJLjava_lang_String__V rfl) rfl (by show 2 * 0 + _ ≤ _; exact Nat.le_of_eq rfl) (hb hby at_91) (fun _ _ => ⟨rfl, e72, (by decide : 3 + 0 ≤ _), (by decide : 6 + 0 ≤ _)⟩)
  dsimp only [Pt.U, Pt.locs, Pt.cells, Pt.slots] at X74 l74 y74 z74 st74 hQ74
  subst l74 y74 z74
  obtain ⟨rfl, N74q, K74, f74_0, f74_1, f74_2, f74_3, f74_4⟩ := hQ74
  have N74 := Fr.app N70 N74q
  have Z75 : n0 ≤ T74.heap.size := Nat.le_trans Z73 K74.1
  have K0_75 : Keep h0 T74.heap [] := K0_73.trans K74 (allS (Or.inr l0_b72) all0)
  have O75 : Old Z n0 T74.heap := O73.keep K74 (allS g_b72 all0)
  obtain ⟨T76, h76, X76, e76, E76, A76, D76, -, st76⟩ := newO X74 hx hZ hown (W 30 rfl) (W 31 rfl) (W 32 rfl) rfl (g := (mkF m 96 #[.val (.long q0), .second, .val (.long q1), .second, .val (.long q2), .second, .val (.long q3), .second, .val (.long q4), .second, .val (.int p5), .val (.ref b62), .val (.ref b67), .val .null, .val .null, .val (.ref b72), .unset, .unset, .unset] [])) rfl (hb hby at_96) (by decide) (by decide)
  obtain ⟨b76, g76⟩ : ∃ z, z = T74.heap.size := ⟨_, rfl⟩
  rw [← g76] at A76 D76 st76
  have Z77 : n0 ≤ h76.size := Nat.le_trans Z75 E76.1
  have K0_77 : Keep h0 h76 [] := K0_75.ext E76
  have O77 : Old Z n0 h76 := O75.ext E76
  have lo_b76 : T74.heap.size ≤ b76 := Nat.le_of_eq g76.symm
  have g_b76 : n0 ≤ b76 := Nat.le_trans Z75 lo_b76
  have l0_b76 : h0.size ≤ b76 := Nat.le_trans K0_75.1 lo_b76
  have F_created_b76 : Fld Z h76 b76 "com/example/armor_for_retries/armorforretries/bench/Tally" "created" "J" (.long (0 : Int64)) := D76 (Or.inr (W 38 rfl)) (ty := .long) (by decide)
  have F_windowed_b76 : Fld Z h76 b76 "com/example/armor_for_retries/armorforretries/bench/Tally" "windowed" "J" (.long (0 : Int64)) := D76 (Or.inr (W 40 rfl)) (ty := .long) (by decide)
  have F_errors_b76 : Fld Z h76 b76 "com/example/armor_for_retries/armorforretries/bench/Tally" "errors" "J" (.long (0 : Int64)) := D76 (Or.inr (W 42 rfl)) (ty := .long) (by decide)
  have F_firstError_b76 : Fld Z h76 b76 "com/example/armor_for_retries/armorforretries/bench/Tally" "firstError" "Ljava/lang/String;" .null := D76 (Or.inr (W 44 rfl)) (ty := (.object "java/lang/String")) (by decide)
  -- pc 111: com/example/armor_for_retries/armorforretries/bench/Tally.<init>
  obtain ⟨_, _, ⟨T78, L78, k78, n78⟩, -, X78, ⟨Lc78, hQ78, l78, y78, z78⟩, st78⟩ := X76.specialBack hx (y := y0) rfl hown (mvT hZ (W 33 rfl)) (mvT hZ (W 34 rfl)) (mvT hZ (W 35 rfl)) (by decide) (backOf (W := 1) (rmTI l Z a0 G1 hG [] b76 q1 (q4 ^^^ (-1 : Int64)) q3 .null h76 n0 Z77 O77 A76 F_created_b76 F_windowed_b76 F_errors_b76 F_firstError_b76 g_b76 rfl) hZ (W 35 rfl) (W 32 rfl) (by decide) (by decide)) (g := (mkF m 111 #[.val (.long q0), .second, .val (.long q1), .second, .val (.long q2), .second, .val (.long q3), .second, .val (.long q4), .second, .val (.int p5), .val (.ref b62), .val (.ref b67), .val .null, .val .null, .val (.ref b72), .unset, .unset, .unset] [.null, (.long q3), (.long (q4 ^^^ (-1 : Int64))), (.long q1), (.ref b76), (.ref b76)])) rfl (by rw [hml]; rfl) (Steps.refl _) (a := b76) (argsL := [(.long q1), (.long (q4 ^^^ (-1 : Int64))), (.long q3), .null]) (rest := [(.ref b76)]) (lenOf pd__JJJLjava_lang_String__V rfl) rfl (by show 2 * 0 + _ ≤ _; exact Nat.le_of_eq rfl) (hb hby at_111) (fun _ _ => ⟨rfl, e76, (by decide : 4 + 0 ≤ _), (by decide : 10 + 0 ≤ _)⟩)
  dsimp only [Pt.U, Pt.locs, Pt.cells, Pt.slots] at X78 l78 y78 z78 st78 hQ78
  subst l78 y78 z78
  obtain ⟨rfl, N78q, K78, f78_0, f78_1, f78_2, f78_3, f78_4⟩ := hQ78
  have N78 := Fr.app N74 N78q
  have Z79 : n0 ≤ T78.heap.size := Nat.le_trans Z77 K78.1
  have K0_79 : Keep h0 T78.heap [] := K0_77.trans K78 (allS (Or.inr l0_b76) all0)
  have O79 : Old Z n0 T78.heap := O77.keep K78 (allS g_b76 all0)
  have f81 := ((f74_0.ext E76).keep K78)
  have f82 := ((f74_1.ext E76).keep K78 (ninS (Nat.ne_of_lt (Nat.lt_of_lt_of_le f74_0.lt lo_b76)) nin0))
  have f83 := ((f74_2.ext E76).keep K78 (ninS (Nat.ne_of_lt (Nat.lt_of_lt_of_le f74_0.lt lo_b76)) nin0))
  have f84 := ((f74_3.ext E76).keep K78 (ninS (Nat.ne_of_lt (Nat.lt_of_lt_of_le f74_0.lt lo_b76)) nin0))
  have f85 := ((f74_4.ext E76).keep K78 (ninS (Nat.ne_of_lt (Nat.lt_of_lt_of_le f74_0.lt lo_b76)) nin0))
  obtain ⟨cq80, kq80, q80a, q80b, q80c⟩ := isOf hZ rfl f81
  -- pc 120: com/example/armor_for_retries/armorforretries/bench/Tally.plus
  obtain ⟨_, _, ⟨T80, L80, k80, n80⟩, -, X80, ⟨Lc80, hQ80, l80, y80, z80⟩, st80⟩ := X78.virtualBack hx (y := y4) (z := y4) hown (mvT hZ (W 46 rfl)) (mvT hZ (W 47 rfl)) (notFace_of_selects (args := #[]) (mvT hZ (W 49 rfl))) (mvT hZ (W 49 rfl)) (mvT hZ (W 48 rfl)) (by decide) (backOf (W := 0) (rmplusN l Z a0 G1 hG [] b72 b76 q0 q4 q2 q1 (q4 ^^^ (-1 : Int64)) q3 .null T78.heap n0 Z79 O79 f81 f82 f83 f84 f85 f78_0 f78_1 f78_2 f78_3 f78_4 rfl) hZ (W 50 rfl) (W 32 rfl) (by decide) (by decide)) q80a q80c (g := (mkF m 120 #[.val (.long q0), .second, .val (.long q1), .second, .val (.long q2), .second, .val (.long q3), .second, .val (.long q4), .second, .val (.int p5), .val (.ref b62), .val (.ref b67), .val .null, .val .null, .val (.ref b72), .val (.ref b76), .unset, .unset] [(.ref b76), (.ref b72)])) rfl (by rw [hml]; rfl) (Steps.refl _) (argsL := [(.ref b76)]) (rest := []) (lenOf pd__Lcom_example_armor_for_retries_armorforretries_bench_Tally__Lcom_example_armor_for_retries_armorforretries_bench_Tally_ rfl) rfl (by show 2 * 0 + _ ≤ _; exact Nat.le_of_eq rfl) (hb hby at_120) (fun _ _ => ⟨rfl, rfl, (by decide : 4 + 1 ≤ _), (by decide : 10 + 4 ≤ _)⟩)
  dsimp only [Pt.U, Pt.locs, Pt.cells, Pt.slots] at X80 l80 y80 z80 st80 hQ80
  subst l80 y80 z80
  obtain ⟨b_80, rfl, N80q, K80, f80_0, f80_1, f80_2, f80_3, f80_4⟩ := hQ80
  have N80 := Fr.app N78 N80q
  have Z86 : n0 ≤ T80.heap.size := Nat.le_trans Z79 K80.1
  have K0_86 : Keep h0 T80.heap [] := K0_79.trans K80 all0
  have O86 : Old Z n0 T80.heap := O79.keep K80 all0
  have lo_b_80 : T78.heap.size ≤ b_80 := f80_0
  have g_b_80 : n0 ≤ b_80 := Nat.le_trans Z79 lo_b_80
  have l0_b_80 : h0.size ≤ b_80 := Nat.le_trans K0_79.1 lo_b_80
  obtain ⟨cq87, kq87, q87a, q87b, q87c⟩ := isOf hZ rfl f80_1
  -- pc 143: com/example/armor_for_retries/armorforretries/bench/Tally.created
  obtain ⟨_, _, ⟨T87, L87, k87, n87⟩, -, X87, ⟨Lc87, hQ87, l87, y87, z87⟩, st87⟩ := X80.virtualBack hx (y := y1) (z := y1) hown (mvT hZ (W 53 rfl)) (mvT hZ (W 54 rfl)) (notFace_of_selects (args := #[]) (mvT hZ (W 56 rfl))) (mvT hZ (W 56 rfl)) (mvT hZ (W 55 rfl)) (by decide) (backOf (W := 0) (rmG_created l Z a0 G1 hG [] b_80 (q0 + q1) T80.heap n0 Z86 O86 f80_2) hZ (W 57 rfl) (W 32 rfl) (by decide) (by decide)) q87a q87c (g := (mkF m 143 #[.val (.long q0), .second, .val (.long q1), .second, .val (.long q2), .second, .val (.long q3), .second, .val (.long q4), .second, .val (.int p5), .val (.ref b62), .val (.ref b67), .val .null, .val .null, .val (.ref b72), .val (.ref b76), .val (.ref b_80), .val .null] [(.ref b_80)])) rfl (by rw [hml]; rfl) (Steps.refl _) (argsL := []) (rest := []) (lenOf pd___J rfl) rfl (by show 2 * 0 + _ ≤ _; exact Nat.le_of_eq rfl) (hb hby at_143) (fun _ _ => ⟨rfl, rfl, (by decide : 5 + 0 ≤ _), (by decide : 14 + 0 ≤ _)⟩)
  dsimp only [Pt.U, Pt.locs, Pt.cells, Pt.slots] at X87 l87 y87 z87 st87 hQ87
  subst l87 y87 z87
  obtain ⟨rfl, N87q, eq87⟩ := hQ87
  have N87 := Fr.app N80 N87q
  obtain ⟨cq88, kq88, q88a, q88b, q88c⟩ := isOf hZ eq87 f80_1
  -- pc 155: com/example/armor_for_retries/armorforretries/bench/Tally.errors
  obtain ⟨_, _, ⟨T88, L88, k88, n88⟩, -, X88, ⟨Lc88, hQ88, l88, y88, z88⟩, st88⟩ := X87.virtualBack hx (y := y2) (z := y2) hown (mvT hZ (W 58 rfl)) (mvT hZ (W 59 rfl)) (notFace_of_selects (args := #[]) (mvT hZ (W 61 rfl))) (mvT hZ (W 61 rfl)) (mvT hZ (W 60 rfl)) (by decide) (backOf (W := 0) (rmG_errors l Z a0 G1 hG [] b_80 (q2 + q3) T80.heap n0 Z86 O86 f80_3) hZ (W 62 rfl) (W 32 rfl) (by decide) (by decide)) q88a q88c (g := (mkF m 155 #[.val (.long q0), .second, .val (.long q1), .second, .val (.long q2), .second, .val (.long q3), .second, .val (.long q4), .second, .val (.int p5), .val (.ref b62), .val (.ref b67), .val .null, .val .null, .val (.ref b72), .val (.ref b76), .val (.ref b_80), .val .null] [(.ref b_80)])) rfl (by rw [hml]; rfl) (Steps.refl _) (argsL := []) (rest := []) (lenOf pd___J rfl) rfl (by show 2 * 0 + _ ≤ _; exact Nat.le_of_eq rfl) (hb hby at_155) (fun _ _ => ⟨rfl, eq87, (by decide : 5 + 0 ≤ _), (by decide : 14 + 0 ≤ _)⟩)
  dsimp only [Pt.U, Pt.locs, Pt.cells, Pt.slots] at X88 l88 y88 z88 st88 hQ88
  subst l88 y88 z88
  obtain ⟨rfl, N88q, eq88⟩ := hQ88
  have N88 := Fr.app N87 N88q
  obtain ⟨cq89, kq89, q89a, q89b, q89c⟩ := isOf hZ eq88 f80_1
  -- pc 169: com/example/armor_for_retries/armorforretries/bench/Tally.firstError
  obtain ⟨_, _, ⟨T89, L89, k89, n89⟩, -, X89, ⟨Lc89, hQ89, l89, y89, z89⟩, st89⟩ := X88.virtualBack hx (y := y3) (z := y3) hown (mvT hZ (W 63 rfl)) (mvT hZ (W 64 rfl)) (notFace_of_selects (args := #[]) (mvT hZ (W 66 rfl))) (mvT hZ (W 66 rfl)) (mvT hZ (W 65 rfl)) (by decide) (backOf (W := 0) (rmG_firstError l Z a0 G1 hG [] b_80 .null T80.heap n0 Z86 O86 f80_4 rfl) hZ (W 67 rfl) (W 32 rfl) (by decide) (by decide)) q89a q89c (g := (mkF m 169 #[.val (.long q0), .second, .val (.long q1), .second, .val (.long q2), .second, .val (.long q3), .second, .val (.long q4), .second, .val (.int p5), .val (.ref b62), .val (.ref b67), .val .null, .val .null, .val (.ref b72), .val (.ref b76), .val (.ref b_80), .val .null] [(.ref b_80)])) rfl (by rw [hml]; rfl) (Steps.refl _) (argsL := []) (rest := []) (lenOf pd___Ljava_lang_String_ rfl) rfl (by show 2 * 0 + _ ≤ _; exact Nat.le_of_eq rfl) (hb hby at_169) (fun _ _ => ⟨rfl, eq88, (by decide : 5 + 0 ≤ _), (by decide : 14 + 0 ≤ _)⟩)
  dsimp only [Pt.U, Pt.locs, Pt.cells, Pt.slots] at X89 l89 y89 z89 st89 hQ89
  subst l89 y89 z89
  obtain ⟨rfl, N89q, eq89⟩ := hQ89
  have N89 := Fr.app N88 N89q
  obtain ⟨fs, hr, hrun, hended, hW, hsame⟩ := X89.leave (v := some (.int (1 : Int32))) (fun h => by rw [Bd.returns] at h; cases h)
  refine ⟨_, _, pre0 _ ?_, hrun, hended, _, _, rfl, ?_, ⟨_, rfl⟩, hW, hsame.mono (Nat.le_of_ble_eq_true rfl) (Nat.le_of_ble_eq_true rfl)⟩
  · show Steps p.tables e below (s₁.setTop (mkF m 0 #[.val (.long q0), .second, .val (.long q1), .second, .val (.long q2), .second, .val (.long q3), .second, .val (.long q4), .second, .val (.int p5), .unset, .unset, .unset, .unset, .unset, .unset, .unset, .unset] [])) _
    refine XS.iconst X0.here hx rfl (hb hby at_0) ?_
    show Steps p.tables e below (s₁.setTop (mkF m 1 #[.val (.long q0), .second, .val (.long q1), .second, .val (.long q2), .second, .val (.long q3), .second, .val (.long q4), .second, .val (.int p5), .unset, .unset, .unset, .unset, .unset, .unset, .unset, .unset] [(.int (1 : Int32))])) _
    refine st62 _ ?_
    show Steps p.tables e below (T62.setTop (mkF m 3 #[.val (.long q0), .second, .val (.long q1), .second, .val (.long q2), .second, .val (.long q3), .second, .val (.long q4), .second, .val (.int p5), .unset, .unset, .unset, .unset, .unset, .unset, .unset, .unset] [(.ref b62)])) _
    refine XS.dup X62.here hx rfl (hb hby at_3) rfl rfl ?_
    show Steps p.tables e below (T62.setTop (mkF m 4 #[.val (.long q0), .second, .val (.long q1), .second, .val (.long q2), .second, .val (.long q3), .second, .val (.long q4), .second, .val (.int p5), .unset, .unset, .unset, .unset, .unset, .unset, .unset, .unset] [(.ref b62), (.ref b62)])) _
    refine XS.iconst X62.here hx rfl (hb hby at_4) ?_
    show Steps p.tables e below (T62.setTop (mkF m 5 #[.val (.long q0), .second, .val (.long q1), .second, .val (.long q2), .second, .val (.long q3), .second, .val (.long q4), .second, .val (.int p5), .unset, .unset, .unset, .unset, .unset, .unset, .unset, .unset] [(.int (0 : Int32)), (.ref b62), (.ref b62)])) _
    refine XS.iload X62.here hx rfl (hb hby at_5) rfl ?_
    show Steps p.tables e below (T62.setTop (mkF m 7 #[.val (.long q0), .second, .val (.long q1), .second, .val (.long q2), .second, .val (.long q3), .second, .val (.long q4), .second, .val (.int p5), .unset, .unset, .unset, .unset, .unset, .unset, .unset, .unset] [(.int p5), (.int (0 : Int32)), (.ref b62), (.ref b62)])) _
    refine XS.bipush X62.here hx rfl (hb hby at_7) ?_
    show Steps p.tables e below (T62.setTop (mkF m 9 #[.val (.long q0), .second, .val (.long q1), .second, .val (.long q2), .second, .val (.long q3), .second, .val (.long q4), .second, .val (.int p5), .unset, .unset, .unset, .unset, .unset, .unset, .unset, .unset] [(.int (8 : Int32)), (.int p5), (.int (0 : Int32)), (.ref b62), (.ref b62)])) _
    refine XS.iushr X62.here hx rfl (hb hby at_9) rfl ?_
    show Steps p.tables e below (T62.setTop (mkF m 10 #[.val (.long q0), .second, .val (.long q1), .second, .val (.long q2), .second, .val (.long q3), .second, .val (.long q4), .second, .val (.int p5), .unset, .unset, .unset, .unset, .unset, .unset, .unset, .unset] [(.int ((p5.toUInt32 >>> ((8 : Int32) &&& 31).toUInt32).toInt32)), (.int (0 : Int32)), (.ref b62), (.ref b62)])) _
    refine XS.sipush X62.here hx rfl (hb hby at_10) ?_
    show Steps p.tables e below (T62.setTop (mkF m 13 #[.val (.long q0), .second, .val (.long q1), .second, .val (.long q2), .second, .val (.long q3), .second, .val (.long q4), .second, .val (.int p5), .unset, .unset, .unset, .unset, .unset, .unset, .unset, .unset] [(.int (255 : Int32)), (.int ((p5.toUInt32 >>> ((8 : Int32) &&& 31).toUInt32).toInt32)), (.int (0 : Int32)), (.ref b62), (.ref b62)])) _
    refine XS.iand X62.here hx rfl (hb hby at_13) rfl ?_
    show Steps p.tables e below (T62.setTop (mkF m 14 #[.val (.long q0), .second, .val (.long q1), .second, .val (.long q2), .second, .val (.long q3), .second, .val (.long q4), .second, .val (.int p5), .unset, .unset, .unset, .unset, .unset, .unset, .unset, .unset] [(.int (((p5.toUInt32 >>> ((8 : Int32) &&& 31).toUInt32).toInt32) &&& (255 : Int32))), (.int (0 : Int32)), (.ref b62), (.ref b62)])) _
    refine XS.i2c X62.here hx rfl (hb hby at_14) rfl ?_
    show Steps p.tables e below (T62.setTop (mkF m 15 #[.val (.long q0), .second, .val (.long q1), .second, .val (.long q2), .second, .val (.long q3), .second, .val (.long q4), .second, .val (.int p5), .unset, .unset, .unset, .unset, .unset, .unset, .unset, .unset] [(.int ((((p5.toUInt32 >>> ((8 : Int32) &&& 31).toUInt32).toInt32) &&& (255 : Int32)).toUInt32.toUInt16.toUInt32.toInt32)), (.int (0 : Int32)), (.ref b62), (.ref b62)])) _
    refine st65 _ ?_
    show Steps p.tables e below (T65.setTop (mkF m 16 #[.val (.long q0), .second, .val (.long q1), .second, .val (.long q2), .second, .val (.long q3), .second, .val (.long q4), .second, .val (.int p5), .unset, .unset, .unset, .unset, .unset, .unset, .unset, .unset] [(.ref b62)])) _
    refine XS.astore X65.here hx rfl (hb hby at_16) rfl rfl (l' := #[.val (.long q0), .second, .val (.long q1), .second, .val (.long q2), .second, .val (.long q3), .second, .val (.long q4), .second, .val (.int p5), .val (.ref b62), .unset, .unset, .unset, .unset, .unset, .unset, .unset]) rfl ?_
    show Steps p.tables e below (T65.setTop (mkF m 18 #[.val (.long q0), .second, .val (.long q1), .second, .val (.long q2), .second, .val (.long q3), .second, .val (.long q4), .second, .val (.int p5), .val (.ref b62), .unset, .unset, .unset, .unset, .unset, .unset, .unset] [])) _
    refine XS.iconst X65.here hx rfl (hb hby at_18) ?_
    show Steps p.tables e below (T65.setTop (mkF m 19 #[.val (.long q0), .second, .val (.long q1), .second, .val (.long q2), .second, .val (.long q3), .second, .val (.long q4), .second, .val (.int p5), .val (.ref b62), .unset, .unset, .unset, .unset, .unset, .unset, .unset] [(.int (1 : Int32))])) _
    refine st67 _ ?_
    show Steps p.tables e below (T67.setTop (mkF m 21 #[.val (.long q0), .second, .val (.long q1), .second, .val (.long q2), .second, .val (.long q3), .second, .val (.long q4), .second, .val (.int p5), .val (.ref b62), .unset, .unset, .unset, .unset, .unset, .unset, .unset] [(.ref b67)])) _
    refine XS.dup X67.here hx rfl (hb hby at_21) rfl rfl ?_
    show Steps p.tables e below (T67.setTop (mkF m 22 #[.val (.long q0), .second, .val (.long q1), .second, .val (.long q2), .second, .val (.long q3), .second, .val (.long q4), .second, .val (.int p5), .val (.ref b62), .unset, .unset, .unset, .unset, .unset, .unset, .unset] [(.ref b67), (.ref b67)])) _
    refine XS.iconst X67.here hx rfl (hb hby at_22) ?_
    show Steps p.tables e below (T67.setTop (mkF m 23 #[.val (.long q0), .second, .val (.long q1), .second, .val (.long q2), .second, .val (.long q3), .second, .val (.long q4), .second, .val (.int p5), .val (.ref b62), .unset, .unset, .unset, .unset, .unset, .unset, .unset] [(.int (0 : Int32)), (.ref b67), (.ref b67)])) _
    refine XS.iload X67.here hx rfl (hb hby at_23) rfl ?_
    show Steps p.tables e below (T67.setTop (mkF m 25 #[.val (.long q0), .second, .val (.long q1), .second, .val (.long q2), .second, .val (.long q3), .second, .val (.long q4), .second, .val (.int p5), .val (.ref b62), .unset, .unset, .unset, .unset, .unset, .unset, .unset] [(.int p5), (.int (0 : Int32)), (.ref b67), (.ref b67)])) _
    refine XS.bipush X67.here hx rfl (hb hby at_25) ?_
    show Steps p.tables e below (T67.setTop (mkF m 27 #[.val (.long q0), .second, .val (.long q1), .second, .val (.long q2), .second, .val (.long q3), .second, .val (.long q4), .second, .val (.int p5), .val (.ref b62), .unset, .unset, .unset, .unset, .unset, .unset, .unset] [(.int (16 : Int32)), (.int p5), (.int (0 : Int32)), (.ref b67), (.ref b67)])) _
    refine XS.iushr X67.here hx rfl (hb hby at_27) rfl ?_
    show Steps p.tables e below (T67.setTop (mkF m 28 #[.val (.long q0), .second, .val (.long q1), .second, .val (.long q2), .second, .val (.long q3), .second, .val (.long q4), .second, .val (.int p5), .val (.ref b62), .unset, .unset, .unset, .unset, .unset, .unset, .unset] [(.int ((p5.toUInt32 >>> ((16 : Int32) &&& 31).toUInt32).toInt32)), (.int (0 : Int32)), (.ref b67), (.ref b67)])) _
    refine XS.sipush X67.here hx rfl (hb hby at_28) ?_
    show Steps p.tables e below (T67.setTop (mkF m 31 #[.val (.long q0), .second, .val (.long q1), .second, .val (.long q2), .second, .val (.long q3), .second, .val (.long q4), .second, .val (.int p5), .val (.ref b62), .unset, .unset, .unset, .unset, .unset, .unset, .unset] [(.int (255 : Int32)), (.int ((p5.toUInt32 >>> ((16 : Int32) &&& 31).toUInt32).toInt32)), (.int (0 : Int32)), (.ref b67), (.ref b67)])) _
    refine XS.iand X67.here hx rfl (hb hby at_31) rfl ?_
    show Steps p.tables e below (T67.setTop (mkF m 32 #[.val (.long q0), .second, .val (.long q1), .second, .val (.long q2), .second, .val (.long q3), .second, .val (.long q4), .second, .val (.int p5), .val (.ref b62), .unset, .unset, .unset, .unset, .unset, .unset, .unset] [(.int (((p5.toUInt32 >>> ((16 : Int32) &&& 31).toUInt32).toInt32) &&& (255 : Int32))), (.int (0 : Int32)), (.ref b67), (.ref b67)])) _
    refine XS.i2c X67.here hx rfl (hb hby at_32) rfl ?_
    show Steps p.tables e below (T67.setTop (mkF m 33 #[.val (.long q0), .second, .val (.long q1), .second, .val (.long q2), .second, .val (.long q3), .second, .val (.long q4), .second, .val (.int p5), .val (.ref b62), .unset, .unset, .unset, .unset, .unset, .unset, .unset] [(.int ((((p5.toUInt32 >>> ((16 : Int32) &&& 31).toUInt32).toInt32) &&& (255 : Int32)).toUInt32.toUInt16.toUInt32.toInt32)), (.int (0 : Int32)), (.ref b67), (.ref b67)])) _
    refine st70 _ ?_
    show Steps p.tables e below (T70.setTop (mkF m 34 #[.val (.long q0), .second, .val (.long q1), .second, .val (.long q2), .second, .val (.long q3), .second, .val (.long q4), .second, .val (.int p5), .val (.ref b62), .unset, .unset, .unset, .unset, .unset, .unset, .unset] [(.ref b67)])) _
    refine XS.astore X70.here hx rfl (hb hby at_34) rfl rfl (l' := #[.val (.long q0), .second, .val (.long q1), .second, .val (.long q2), .second, .val (.long q3), .second, .val (.long q4), .second, .val (.int p5), .val (.ref b62), .val (.ref b67), .unset, .unset, .unset, .unset, .unset, .unset]) rfl ?_
    show Steps p.tables e below (T70.setTop (mkF m 36 #[.val (.long q0), .second, .val (.long q1), .second, .val (.long q2), .second, .val (.long q3), .second, .val (.long q4), .second, .val (.int p5), .val (.ref b62), .val (.ref b67), .unset, .unset, .unset, .unset, .unset, .unset] [])) _
    refine XS.iload X70.here hx rfl (hb hby at_36) rfl ?_
    show Steps p.tables e below (T70.setTop (mkF m 38 #[.val (.long q0), .second, .val (.long q1), .second, .val (.long q2), .second, .val (.long q3), .second, .val (.long q4), .second, .val (.int p5), .val (.ref b62), .val (.ref b67), .unset, .unset, .unset, .unset, .unset, .unset] [(.int p5)])) _
    refine XS.iconst X70.here hx rfl (hb hby at_38) ?_
    show Steps p.tables e below (T70.setTop (mkF m 39 #[.val (.long q0), .second, .val (.long q1), .second, .val (.long q2), .second, .val (.long q3), .second, .val (.long q4), .second, .val (.int p5), .val (.ref b62), .val (.ref b67), .unset, .unset, .unset, .unset, .unset, .unset] [(.int (1 : Int32)), (.int p5)])) _
    refine XS.iand X70.here hx rfl (hb hby at_39) rfl ?_
    show Steps p.tables e below (T70.setTop (mkF m 40 #[.val (.long q0), .second, .val (.long q1), .second, .val (.long q2), .second, .val (.long q3), .second, .val (.long q4), .second, .val (.int p5), .val (.ref b62), .val (.ref b67), .unset, .unset, .unset, .unset, .unset, .unset] [(.int (p5 &&& (1 : Int32)))])) _
    refine XS.ifYes X70.here hx rfl (pc0 := 40) (pc' := 55) rfl (hb hby at_40) rfl ((if0 _ _).trans (teq (hc40 : (p5 &&& (1 : Int32)) = (0 : Int32))).1) (by decide) (by decide) ?_
    show Steps p.tables e below (T70.setTop (mkF m 55 #[.val (.long q0), .second, .val (.long q1), .second, .val (.long q2), .second, .val (.long q3), .second, .val (.long q4), .second, .val (.int p5), .val (.ref b62), .val (.ref b67), .unset, .unset, .unset, .unset, .unset, .unset] [])) _
    refine XS.aconstNull X70.here hx rfl (hb hby at_55) ?_
    show Steps p.tables e below (T70.setTop (mkF m 56 #[.val (.long q0), .second, .val (.long q1), .second, .val (.long q2), .second, .val (.long q3), .second, .val (.long q4), .second, .val (.int p5), .val (.ref b62), .val (.ref b67), .unset, .unset, .unset, .unset, .unset, .unset] [.null])) _
    refine XS.astore X70.here hx rfl (hb hby at_56) rfl rfl (l' := #[.val (.long q0), .second, .val (.long q1), .second, .val (.long q2), .second, .val (.long q3), .second, .val (.long q4), .second, .val (.int p5), .val (.ref b62), .val (.ref b67), .val .null, .unset, .unset, .unset, .unset, .unset]) rfl ?_
    show Steps p.tables e below (T70.setTop (mkF m 58 #[.val (.long q0), .second, .val (.long q1), .second, .val (.long q2), .second, .val (.long q3), .second, .val (.long q4), .second, .val (.int p5), .val (.ref b62), .val (.ref b67), .val .null, .unset, .unset, .unset, .unset, .unset] [])) _
    refine XS.iload X70.here hx rfl (hb hby at_58) rfl ?_
    show Steps p.tables e below (T70.setTop (mkF m 60 #[.val (.long q0), .second, .val (.long q1), .second, .val (.long q2), .second, .val (.long q3), .second, .val (.long q4), .second, .val (.int p5), .val (.ref b62), .val (.ref b67), .val .null, .unset, .unset, .unset, .unset, .unset] [(.int p5)])) _
    refine XS.iconst X70.here hx rfl (hb hby at_60) ?_
    show Steps p.tables e below (T70.setTop (mkF m 61 #[.val (.long q0), .second, .val (.long q1), .second, .val (.long q2), .second, .val (.long q3), .second, .val (.long q4), .second, .val (.int p5), .val (.ref b62), .val (.ref b67), .val .null, .unset, .unset, .unset, .unset, .unset] [(.int (2 : Int32)), (.int p5)])) _
    refine XS.iand X70.here hx rfl (hb hby at_61) rfl ?_
    show Steps p.tables e below (T70.setTop (mkF m 62 #[.val (.long q0), .second, .val (.long q1), .second, .val (.long q2), .second, .val (.long q3), .second, .val (.long q4), .second, .val (.int p5), .val (.ref b62), .val (.ref b67), .val .null, .unset, .unset, .unset, .unset, .unset] [(.int (p5 &&& (2 : Int32)))])) _
    refine XS.ifYes X70.here hx rfl (pc0 := 62) (pc' := 77) rfl (hb hby at_62) rfl ((if0 _ _).trans (teq (hc62 : (p5 &&& (2 : Int32)) = (0 : Int32))).1) (by decide) (by decide) ?_
    show Steps p.tables e below (T70.setTop (mkF m 77 #[.val (.long q0), .second, .val (.long q1), .second, .val (.long q2), .second, .val (.long q3), .second, .val (.long q4), .second, .val (.int p5), .val (.ref b62), .val (.ref b67), .val .null, .unset, .unset, .unset, .unset, .unset] [])) _
    refine XS.aconstNull X70.here hx rfl (hb hby at_77) ?_
    show Steps p.tables e below (T70.setTop (mkF m 78 #[.val (.long q0), .second, .val (.long q1), .second, .val (.long q2), .second, .val (.long q3), .second, .val (.long q4), .second, .val (.int p5), .val (.ref b62), .val (.ref b67), .val .null, .unset, .unset, .unset, .unset, .unset] [.null])) _
    refine XS.astore X70.here hx rfl (hb hby at_78) rfl rfl (l' := #[.val (.long q0), .second, .val (.long q1), .second, .val (.long q2), .second, .val (.long q3), .second, .val (.long q4), .second, .val (.int p5), .val (.ref b62), .val (.ref b67), .val .null, .val .null, .unset, .unset, .unset, .unset]) rfl ?_
    show Steps p.tables e below (T70.setTop (mkF m 80 #[.val (.long q0), .second, .val (.long q1), .second, .val (.long q2), .second, .val (.long q3), .second, .val (.long q4), .second, .val (.int p5), .val (.ref b62), .val (.ref b67), .val .null, .val .null, .unset, .unset, .unset, .unset] [])) _
    refine st72 _ ?_
    show Steps p.tables e below (T72.setTop (mkF m 83 #[.val (.long q0), .second, .val (.long q1), .second, .val (.long q2), .second, .val (.long q3), .second, .val (.long q4), .second, .val (.int p5), .val (.ref b62), .val (.ref b67), .val .null, .val .null, .unset, .unset, .unset, .unset] [(.ref b72)])) _
    refine XS.dup X72.here hx rfl (hb hby at_83) rfl rfl ?_
    show Steps p.tables e below (T72.setTop (mkF m 84 #[.val (.long q0), .second, .val (.long q1), .second, .val (.long q2), .second, .val (.long q3), .second, .val (.long q4), .second, .val (.int p5), .val (.ref b62), .val (.ref b67), .val .null, .val .null, .unset, .unset, .unset, .unset] [(.ref b72), (.ref b72)])) _
    refine XS.lloadN X72.here hx rfl (hb hby at_84) rfl ?_
    show Steps p.tables e below (T72.setTop (mkF m 85 #[.val (.long q0), .second, .val (.long q1), .second, .val (.long q2), .second, .val (.long q3), .second, .val (.long q4), .second, .val (.int p5), .val (.ref b62), .val (.ref b67), .val .null, .val .null, .unset, .unset, .unset, .unset] [(.long q0), (.ref b72), (.ref b72)])) _
    refine XS.lload X72.here hx rfl (hb hby at_85) rfl ?_
    show Steps p.tables e below (T72.setTop (mkF m 87 #[.val (.long q0), .second, .val (.long q1), .second, .val (.long q2), .second, .val (.long q3), .second, .val (.long q4), .second, .val (.int p5), .val (.ref b62), .val (.ref b67), .val .null, .val .null, .unset, .unset, .unset, .unset] [(.long q4), (.long q0), (.ref b72), (.ref b72)])) _
    refine XS.lload X72.here hx rfl (hb hby at_87) rfl ?_
    show Steps p.tables e below (T72.setTop (mkF m 89 #[.val (.long q0), .second, .val (.long q1), .second, .val (.long q2), .second, .val (.long q3), .second, .val (.long q4), .second, .val (.int p5), .val (.ref b62), .val (.ref b67), .val .null, .val .null, .unset, .unset, .unset, .unset] [(.long q2), (.long q4), (.long q0), (.ref b72), (.ref b72)])) _
    refine XS.aload X72.here hx rfl (hb hby at_89) rfl rfl ?_
    show Steps p.tables e below (T72.setTop (mkF m 91 #[.val (.long q0), .second, .val (.long q1), .second, .val (.long q2), .second, .val (.long q3), .second, .val (.long q4), .second, .val (.int p5), .val (.ref b62), .val (.ref b67), .val .null, .val .null, .unset, .unset, .unset, .unset] [.null, (.long q2), (.long q4), (.long q0), (.ref b72), (.ref b72)])) _
    refine st74.trans ?_
    show Steps p.tables e below (T74.setTop (mkF m 94 #[.val (.long q0), .second, .val (.long q1), .second, .val (.long q2), .second, .val (.long q3), .second, .val (.long q4), .second, .val (.int p5), .val (.ref b62), .val (.ref b67), .val .null, .val .null, .unset, .unset, .unset, .unset] [(.ref b72)])) _
    refine XS.astore X74.here hx rfl (hb hby at_94) rfl rfl (l' := #[.val (.long q0), .second, .val (.long q1), .second, .val (.long q2), .second, .val (.long q3), .second, .val (.long q4), .second, .val (.int p5), .val (.ref b62), .val (.ref b67), .val .null, .val .null, .val (.ref b72), .unset, .unset, .unset]) rfl ?_
    show Steps p.tables e below (T74.setTop (mkF m 96 #[.val (.long q0), .second, .val (.long q1), .second, .val (.long q2), .second, .val (.long q3), .second, .val (.long q4), .second, .val (.int p5), .val (.ref b62), .val (.ref b67), .val .null, .val .null, .val (.ref b72), .unset, .unset, .unset] [])) _
    refine st76 _ ?_
    show Steps p.tables e below (T76.setTop (mkF m 99 #[.val (.long q0), .second, .val (.long q1), .second, .val (.long q2), .second, .val (.long q3), .second, .val (.long q4), .second, .val (.int p5), .val (.ref b62), .val (.ref b67), .val .null, .val .null, .val (.ref b72), .unset, .unset, .unset] [(.ref b76)])) _
    refine XS.dup X76.here hx rfl (hb hby at_99) rfl rfl ?_
    show Steps p.tables e below (T76.setTop (mkF m 100 #[.val (.long q0), .second, .val (.long q1), .second, .val (.long q2), .second, .val (.long q3), .second, .val (.long q4), .second, .val (.int p5), .val (.ref b62), .val (.ref b67), .val .null, .val .null, .val (.ref b72), .unset, .unset, .unset] [(.ref b76), (.ref b76)])) _
    refine XS.lloadN X76.here hx rfl (hb hby at_100) rfl ?_
    show Steps p.tables e below (T76.setTop (mkF m 101 #[.val (.long q0), .second, .val (.long q1), .second, .val (.long q2), .second, .val (.long q3), .second, .val (.long q4), .second, .val (.int p5), .val (.ref b62), .val (.ref b67), .val .null, .val .null, .val (.ref b72), .unset, .unset, .unset] [(.long q1), (.ref b76), (.ref b76)])) _
    refine XS.lload X76.here hx rfl (hb hby at_101) rfl ?_
    show Steps p.tables e below (T76.setTop (mkF m 103 #[.val (.long q0), .second, .val (.long q1), .second, .val (.long q2), .second, .val (.long q3), .second, .val (.long q4), .second, .val (.int p5), .val (.ref b62), .val (.ref b67), .val .null, .val .null, .val (.ref b72), .unset, .unset, .unset] [(.long q4), (.long q1), (.ref b76), (.ref b76)])) _
    refine X76.ldc2Long hx hown (mvT hZ (W 45 rfl)) (g := (mkF m 103 #[.val (.long q0), .second, .val (.long q1), .second, .val (.long q2), .second, .val (.long q3), .second, .val (.long q4), .second, .val (.int p5), .val (.ref b62), .val (.ref b67), .val .null, .val .null, .val (.ref b72), .unset, .unset, .unset] [(.long q4), (.long q1), (.ref b76), (.ref b76)])) rfl (hb hby at_103) _ ?_
    show Steps p.tables e below (T76.setTop (mkF m 106 #[.val (.long q0), .second, .val (.long q1), .second, .val (.long q2), .second, .val (.long q3), .second, .val (.long q4), .second, .val (.int p5), .val (.ref b62), .val (.ref b67), .val .null, .val .null, .val (.ref b72), .unset, .unset, .unset] [(.long (-1 : Int64)), (.long q4), (.long q1), (.ref b76), (.ref b76)])) _
    refine XS.lxor X76.here hx rfl (hb hby at_106) rfl ?_
    show Steps p.tables e below (T76.setTop (mkF m 107 #[.val (.long q0), .second, .val (.long q1), .second, .val (.long q2), .second, .val (.long q3), .second, .val (.long q4), .second, .val (.int p5), .val (.ref b62), .val (.ref b67), .val .null, .val .null, .val (.ref b72), .unset, .unset, .unset] [(.long (q4 ^^^ (-1 : Int64))), (.long q1), (.ref b76), (.ref b76)])) _
    refine XS.lload X76.here hx rfl (hb hby at_107) rfl ?_
    show Steps p.tables e below (T76.setTop (mkF m 109 #[.val (.long q0), .second, .val (.long q1), .second, .val (.long q2), .second, .val (.long q3), .second, .val (.long q4), .second, .val (.int p5), .val (.ref b62), .val (.ref b67), .val .null, .val .null, .val (.ref b72), .unset, .unset, .unset] [(.long q3), (.long (q4 ^^^ (-1 : Int64))), (.long q1), (.ref b76), (.ref b76)])) _
    refine XS.aload X76.here hx rfl (hb hby at_109) rfl rfl ?_
    show Steps p.tables e below (T76.setTop (mkF m 111 #[.val (.long q0), .second, .val (.long q1), .second, .val (.long q2), .second, .val (.long q3), .second, .val (.long q4), .second, .val (.int p5), .val (.ref b62), .val (.ref b67), .val .null, .val .null, .val (.ref b72), .unset, .unset, .unset] [.null, (.long q3), (.long (q4 ^^^ (-1 : Int64))), (.long q1), (.ref b76), (.ref b76)])) _
    refine st78.trans ?_
    show Steps p.tables e below (T78.setTop (mkF m 114 #[.val (.long q0), .second, .val (.long q1), .second, .val (.long q2), .second, .val (.long q3), .second, .val (.long q4), .second, .val (.int p5), .val (.ref b62), .val (.ref b67), .val .null, .val .null, .val (.ref b72), .unset, .unset, .unset] [(.ref b76)])) _
    refine XS.astore X78.here hx rfl (hb hby at_114) rfl rfl (l' := #[.val (.long q0), .second, .val (.long q1), .second, .val (.long q2), .second, .val (.long q3), .second, .val (.long q4), .second, .val (.int p5), .val (.ref b62), .val (.ref b67), .val .null, .val .null, .val (.ref b72), .val (.ref b76), .unset, .unset]) rfl ?_
    show Steps p.tables e below (T78.setTop (mkF m 116 #[.val (.long q0), .second, .val (.long q1), .second, .val (.long q2), .second, .val (.long q3), .second, .val (.long q4), .second, .val (.int p5), .val (.ref b62), .val (.ref b67), .val .null, .val .null, .val (.ref b72), .val (.ref b76), .unset, .unset] [])) _
    refine XS.aload X78.here hx rfl (hb hby at_116) rfl rfl ?_
    show Steps p.tables e below (T78.setTop (mkF m 118 #[.val (.long q0), .second, .val (.long q1), .second, .val (.long q2), .second, .val (.long q3), .second, .val (.long q4), .second, .val (.int p5), .val (.ref b62), .val (.ref b67), .val .null, .val .null, .val (.ref b72), .val (.ref b76), .unset, .unset] [(.ref b72)])) _
    refine XS.aload X78.here hx rfl (hb hby at_118) rfl rfl ?_
    show Steps p.tables e below (T78.setTop (mkF m 120 #[.val (.long q0), .second, .val (.long q1), .second, .val (.long q2), .second, .val (.long q3), .second, .val (.long q4), .second, .val (.int p5), .val (.ref b62), .val (.ref b67), .val .null, .val .null, .val (.ref b72), .val (.ref b76), .unset, .unset] [(.ref b76), (.ref b72)])) _
    refine st80.trans ?_
    show Steps p.tables e below (T80.setTop (mkF m 123 #[.val (.long q0), .second, .val (.long q1), .second, .val (.long q2), .second, .val (.long q3), .second, .val (.long q4), .second, .val (.int p5), .val (.ref b62), .val (.ref b67), .val .null, .val .null, .val (.ref b72), .val (.ref b76), .unset, .unset] [(.ref b_80)])) _
    refine XS.astore X80.here hx rfl (hb hby at_123) rfl rfl (l' := #[.val (.long q0), .second, .val (.long q1), .second, .val (.long q2), .second, .val (.long q3), .second, .val (.long q4), .second, .val (.int p5), .val (.ref b62), .val (.ref b67), .val .null, .val .null, .val (.ref b72), .val (.ref b76), .val (.ref b_80), .unset]) rfl ?_
    show Steps p.tables e below (T80.setTop (mkF m 125 #[.val (.long q0), .second, .val (.long q1), .second, .val (.long q2), .second, .val (.long q3), .second, .val (.long q4), .second, .val (.int p5), .val (.ref b62), .val (.ref b67), .val .null, .val .null, .val (.ref b72), .val (.ref b76), .val (.ref b_80), .unset] [])) _
    refine XS.aload X80.here hx rfl (hb hby at_125) rfl rfl ?_
    show Steps p.tables e below (T80.setTop (mkF m 127 #[.val (.long q0), .second, .val (.long q1), .second, .val (.long q2), .second, .val (.long q3), .second, .val (.long q4), .second, .val (.int p5), .val (.ref b62), .val (.ref b67), .val .null, .val .null, .val (.ref b72), .val (.ref b76), .val (.ref b_80), .unset] [.null])) _
    refine XS.ifnullYes X80.here hx rfl (pc0 := 127) (pc' := 137) rfl (hb hby at_127) rfl (by decide) (by decide) ?_
    show Steps p.tables e below (T80.setTop (mkF m 137 #[.val (.long q0), .second, .val (.long q1), .second, .val (.long q2), .second, .val (.long q3), .second, .val (.long q4), .second, .val (.int p5), .val (.ref b62), .val (.ref b67), .val .null, .val .null, .val (.ref b72), .val (.ref b76), .val (.ref b_80), .unset] [])) _
    refine XS.aload X80.here hx rfl (hb hby at_137) rfl rfl ?_
    show Steps p.tables e below (T80.setTop (mkF m 139 #[.val (.long q0), .second, .val (.long q1), .second, .val (.long q2), .second, .val (.long q3), .second, .val (.long q4), .second, .val (.int p5), .val (.ref b62), .val (.ref b67), .val .null, .val .null, .val (.ref b72), .val (.ref b76), .val (.ref b_80), .unset] [.null])) _
    refine XS.astore X80.here hx rfl (hb hby at_139) rfl rfl (l' := #[.val (.long q0), .second, .val (.long q1), .second, .val (.long q2), .second, .val (.long q3), .second, .val (.long q4), .second, .val (.int p5), .val (.ref b62), .val (.ref b67), .val .null, .val .null, .val (.ref b72), .val (.ref b76), .val (.ref b_80), .val .null]) rfl ?_
    show Steps p.tables e below (T80.setTop (mkF m 141 #[.val (.long q0), .second, .val (.long q1), .second, .val (.long q2), .second, .val (.long q3), .second, .val (.long q4), .second, .val (.int p5), .val (.ref b62), .val (.ref b67), .val .null, .val .null, .val (.ref b72), .val (.ref b76), .val (.ref b_80), .val .null] [])) _
    refine XS.aload X80.here hx rfl (hb hby at_141) rfl rfl ?_
    show Steps p.tables e below (T80.setTop (mkF m 143 #[.val (.long q0), .second, .val (.long q1), .second, .val (.long q2), .second, .val (.long q3), .second, .val (.long q4), .second, .val (.int p5), .val (.ref b62), .val (.ref b67), .val .null, .val .null, .val (.ref b72), .val (.ref b76), .val (.ref b_80), .val .null] [(.ref b_80)])) _
    refine st87.trans ?_
    show Steps p.tables e below (T87.setTop (mkF m 146 #[.val (.long q0), .second, .val (.long q1), .second, .val (.long q2), .second, .val (.long q3), .second, .val (.long q4), .second, .val (.int p5), .val (.ref b62), .val (.ref b67), .val .null, .val .null, .val (.ref b72), .val (.ref b76), .val (.ref b_80), .val .null] [(.long (q0 + q1))])) _
    refine XS.lloadN X87.here hx rfl (hb hby at_146) rfl ?_
    show Steps p.tables e below (T87.setTop (mkF m 147 #[.val (.long q0), .second, .val (.long q1), .second, .val (.long q2), .second, .val (.long q3), .second, .val (.long q4), .second, .val (.int p5), .val (.ref b62), .val (.ref b67), .val .null, .val .null, .val (.ref b72), .val (.ref b76), .val (.ref b_80), .val .null] [(.long q0), (.long (q0 + q1))])) _
    refine XS.lloadN X87.here hx rfl (hb hby at_147) rfl ?_
    show Steps p.tables e below (T87.setTop (mkF m 148 #[.val (.long q0), .second, .val (.long q1), .second, .val (.long q2), .second, .val (.long q3), .second, .val (.long q4), .second, .val (.int p5), .val (.ref b62), .val (.ref b67), .val .null, .val .null, .val (.ref b72), .val (.ref b76), .val (.ref b_80), .val .null] [(.long q1), (.long q0), (.long (q0 + q1))])) _
    refine XS.ladd X87.here hx rfl (hb hby at_148) rfl ?_
    show Steps p.tables e below (T87.setTop (mkF m 149 #[.val (.long q0), .second, .val (.long q1), .second, .val (.long q2), .second, .val (.long q3), .second, .val (.long q4), .second, .val (.int p5), .val (.ref b62), .val (.ref b67), .val .null, .val .null, .val (.ref b72), .val (.ref b76), .val (.ref b_80), .val .null] [(.long (q0 + q1)), (.long (q0 + q1))])) _
    refine XS.lcmp X87.here hx rfl (hb hby at_149) rfl ?_
    show Steps p.tables e below (T87.setTop (mkF m 150 #[.val (.long q0), .second, .val (.long q1), .second, .val (.long q2), .second, .val (.long q3), .second, .val (.long q4), .second, .val (.int p5), .val (.ref b62), .val (.ref b67), .val .null, .val .null, .val (.ref b72), .val (.ref b76), .val (.ref b_80), .val .null] [(.int (lcmpW (q0 + q1) (q0 + q1)))])) _
    refine XS.ifNo X87.here hx rfl (hb hby at_150) rfl ((if0 _ _).trans (teq ((lw_eq _ _).mpr rfl : (lcmpW (q0 + q1) (q0 + q1)) = (0 : Int32))).2) ?_
    show Steps p.tables e below (T87.setTop (mkF m 153 #[.val (.long q0), .second, .val (.long q1), .second, .val (.long q2), .second, .val (.long q3), .second, .val (.long q4), .second, .val (.int p5), .val (.ref b62), .val (.ref b67), .val .null, .val .null, .val (.ref b72), .val (.ref b76), .val (.ref b_80), .val .null] [])) _
    refine XS.aload X87.here hx rfl (hb hby at_153) rfl rfl ?_
    show Steps p.tables e below (T87.setTop (mkF m 155 #[.val (.long q0), .second, .val (.long q1), .second, .val (.long q2), .second, .val (.long q3), .second, .val (.long q4), .second, .val (.int p5), .val (.ref b62), .val (.ref b67), .val .null, .val .null, .val (.ref b72), .val (.ref b76), .val (.ref b_80), .val .null] [(.ref b_80)])) _
    refine st88.trans ?_
    show Steps p.tables e below (T88.setTop (mkF m 158 #[.val (.long q0), .second, .val (.long q1), .second, .val (.long q2), .second, .val (.long q3), .second, .val (.long q4), .second, .val (.int p5), .val (.ref b62), .val (.ref b67), .val .null, .val .null, .val (.ref b72), .val (.ref b76), .val (.ref b_80), .val .null] [(.long (q2 + q3))])) _
    refine XS.lload X88.here hx rfl (hb hby at_158) rfl ?_
    show Steps p.tables e below (T88.setTop (mkF m 160 #[.val (.long q0), .second, .val (.long q1), .second, .val (.long q2), .second, .val (.long q3), .second, .val (.long q4), .second, .val (.int p5), .val (.ref b62), .val (.ref b67), .val .null, .val .null, .val (.ref b72), .val (.ref b76), .val (.ref b_80), .val .null] [(.long q2), (.long (q2 + q3))])) _
    refine XS.lload X88.here hx rfl (hb hby at_160) rfl ?_
    show Steps p.tables e below (T88.setTop (mkF m 162 #[.val (.long q0), .second, .val (.long q1), .second, .val (.long q2), .second, .val (.long q3), .second, .val (.long q4), .second, .val (.int p5), .val (.ref b62), .val (.ref b67), .val .null, .val .null, .val (.ref b72), .val (.ref b76), .val (.ref b_80), .val .null] [(.long q3), (.long q2), (.long (q2 + q3))])) _
    refine XS.ladd X88.here hx rfl (hb hby at_162) rfl ?_
    show Steps p.tables e below (T88.setTop (mkF m 163 #[.val (.long q0), .second, .val (.long q1), .second, .val (.long q2), .second, .val (.long q3), .second, .val (.long q4), .second, .val (.int p5), .val (.ref b62), .val (.ref b67), .val .null, .val .null, .val (.ref b72), .val (.ref b76), .val (.ref b_80), .val .null] [(.long (q2 + q3)), (.long (q2 + q3))])) _
    refine XS.lcmp X88.here hx rfl (hb hby at_163) rfl ?_
    show Steps p.tables e below (T88.setTop (mkF m 164 #[.val (.long q0), .second, .val (.long q1), .second, .val (.long q2), .second, .val (.long q3), .second, .val (.long q4), .second, .val (.int p5), .val (.ref b62), .val (.ref b67), .val .null, .val .null, .val (.ref b72), .val (.ref b76), .val (.ref b_80), .val .null] [(.int (lcmpW (q2 + q3) (q2 + q3)))])) _
    refine XS.ifNo X88.here hx rfl (hb hby at_164) rfl ((if0 _ _).trans (teq ((lw_eq _ _).mpr rfl : (lcmpW (q2 + q3) (q2 + q3)) = (0 : Int32))).2) ?_
    show Steps p.tables e below (T88.setTop (mkF m 167 #[.val (.long q0), .second, .val (.long q1), .second, .val (.long q2), .second, .val (.long q3), .second, .val (.long q4), .second, .val (.int p5), .val (.ref b62), .val (.ref b67), .val .null, .val .null, .val (.ref b72), .val (.ref b76), .val (.ref b_80), .val .null] [])) _
    refine XS.aload X88.here hx rfl (hb hby at_167) rfl rfl ?_
    show Steps p.tables e below (T88.setTop (mkF m 169 #[.val (.long q0), .second, .val (.long q1), .second, .val (.long q2), .second, .val (.long q3), .second, .val (.long q4), .second, .val (.int p5), .val (.ref b62), .val (.ref b67), .val .null, .val .null, .val (.ref b72), .val (.ref b76), .val (.ref b_80), .val .null] [(.ref b_80)])) _
    refine st89.trans ?_
    show Steps p.tables e below (T89.setTop (mkF m 172 #[.val (.long q0), .second, .val (.long q1), .second, .val (.long q2), .second, .val (.long q3), .second, .val (.long q4), .second, .val (.int p5), .val (.ref b62), .val (.ref b67), .val .null, .val .null, .val (.ref b72), .val (.ref b76), .val (.ref b_80), .val .null] [.null])) _
    refine XS.aload X89.here hx rfl (hb hby at_172) rfl rfl ?_
    show Steps p.tables e below (T89.setTop (mkF m 174 #[.val (.long q0), .second, .val (.long q1), .second, .val (.long q2), .second, .val (.long q3), .second, .val (.long q4), .second, .val (.int p5), .val (.ref b62), .val (.ref b67), .val .null, .val .null, .val (.ref b72), .val (.ref b76), .val (.ref b_80), .val .null] [.null, .null])) _
    refine Jvm.RoadKit.acmp (g := (mkF m 174 #[.val (.long q0), .second, .val (.long q1), .second, .val (.long q2), .second, .val (.long q3), .second, .val (.long q4), .second, .val (.int p5), .val (.ref b62), .val (.ref b67), .val .null, .val .null, .val (.ref b72), .val (.ref b76), .val (.ref b_80), .val .null] [.null, .null])) X89 hx rfl rfl rfl (pc0 := 174) (pc' := 177) (same := true) rfl (hb hby at_174) rfl (decide_eq_true rfl) (by decide) (by decide) ?_
    show Steps p.tables e below (T89.setTop (mkF m 177 #[.val (.long q0), .second, .val (.long q1), .second, .val (.long q2), .second, .val (.long q3), .second, .val (.long q4), .second, .val (.int p5), .val (.ref b62), .val (.ref b67), .val .null, .val .null, .val (.ref b72), .val (.ref b76), .val (.ref b_80), .val .null] [])) _
    refine XS.iconst X89.here hx rfl (hb hby at_177) ?_
    show Steps p.tables e below (T89.setTop (mkF m 178 #[.val (.long q0), .second, .val (.long q1), .second, .val (.long q2), .second, .val (.long q3), .second, .val (.long q4), .second, .val (.int p5), .val (.ref b62), .val (.ref b67), .val .null, .val .null, .val (.ref b72), .val (.ref b76), .val (.ref b_80), .val .null] [(.int (1 : Int32))])) _
    refine XS.goto X89.here hx rfl (pc0 := 178) (pc' := 182) rfl (hb hby at_178) (by decide) (by decide) ?_
    show Steps p.tables e below (T89.setTop (mkF m 182 #[.val (.long q0), .second, .val (.long q1), .second, .val (.long q2), .second, .val (.long q3), .second, .val (.long q4), .second, .val (.int p5), .val (.ref b62), .val (.ref b67), .val .null, .val .null, .val (.ref b72), .val (.ref b76), .val (.ref b_80), .val .null] [(.int (1 : Int32))])) _
    exact retN X89 hx (t := .boolean) Bd.returns (by simp) (hb hby at_182) hr
  · show Q0 Z G1 q0 q1 q2 q3 q4 p5 h0 n0 _ T89.heap _
    rw [eq89]
    exact ⟨rfl, N89, K0_86⟩
set_option maxRecDepth 65536 in
set_option maxHeartbeats 40000000 in
theorem rm0_tf (l : Launch) (Z : State) (a0 : Array Value) (G1 : Int32) (hG : Glob Z a0 G1) (ws : List Jvm.Cond) (q0 : Int64) (q1 : Int64) (q2 : Int64) (q3 : Int64) (q4 : Int64) (p5 : Int32) (h0 : Heap) (n0 : Nat) (Z0 : n0 ≤ h0.size) (X00 : Old Z n0 h0) (hc40 : (p5 &&& (1 : Int32)) = (0 : Int32)) (hc62 : ¬ ((p5 &&& (2 : Int32)) = (0 : Int32))) :
    MetFree l x (head1 (Jvm.Cond.code x code maxLocals ret :: ws) room_1) (fun a U => a = #[(.long q0), (.long q1), (.long q2), (.long q3), (.long q4), (.int p5)] ∧ Z.Warmed39 U.vm ∧ U.heap = h0) (fun _ _ _ _ _ => True) (fun _ U o U' => ∃ v L, o = .returned v ∧ Q0 Z G1 q0 q1 q2 q3 q4 p5 h0 n0 v U'.heap L ∧ FrameEnd U o U' L room_1.cells room_1.slots) := by
  obtain ⟨hw, O_cs, P_cs⟩ := id hG
  have W : ∀ (i : Nat) {d : Jvm.Cond}, tables_1[i]? = some d → d.before a0 Z = true := fun i d h => hw d (List.mem_of_getElem? h)
  refine MetFree.of_bodySF (plainFor_of_name pn_com_example_armor_for_retries_armorforretries_bench_TallyPlusPinLaw) hisR ?_
  intro p e s m args below meth c s₁ Bd hml0 hP hK
  obtain ⟨rfl, hZ, hh⟩ := hP
  have hx := Bd.exec
  have hby := Bd.bytes
  have hml : c.maxLocals = 19 := hml0
  have hown : s.vm.findClass "com/example/armor_for_retries/armorforretries/bench/TallyPlusPinLaw" = some m.cls := findClass_of_methodNamed Bd.named
  have hnm := (name_of_methodNamed Bd.named Bd.method).1
  have X0 : Stand p l e room_1 s m #[(.long q0), (.long q1), (.long q2), (.long q3), (.long q4), (.int p5)] below meth c s₁ [] 0 0 := Stand.of_body Bd
  have e0 : s₁.heap = h0 := by rw [← hh, Bd.state]; rfl
  have N0 := Fr.nil n0
  have pre0 : ∀ t, Steps p.tables e below (s₁.setTop (mkF m 0 #[.val (.long q0), .second, .val (.long q1), .second, .val (.long q2), .second, .val (.long q3), .second, .val (.long q4), .second, .val (.int p5), .unset, .unset, .unset, .unset, .unset, .unset, .unset, .unset] [])) t → Steps p.tables e below (s₁.setTop (entryFrame m #[(.long q0), (.long q1), (.long q2), (.long q3), (.long q4), (.int p5)] maxLocals)) t := fun t k => castTop (ef_code_JJJJJI m q0 q1 q2 q3 q4 p5) k
  obtain ⟨T90, h90, k90, X90, e90, E90, A90, st90⟩ := newP X0 hx hZ (W 0 rfl) e0 (g := (mkF m 1 #[.val (.long q0), .second, .val (.long q1), .second, .val (.long q2), .second, .val (.long q3), .second, .val (.long q4), .second, .val (.int p5), .unset, .unset, .unset, .unset, .unset, .unset, .unset, .unset] [(.int (1 : Int32))])) rfl (hb hby at_1) rfl (by decide) (cap := 1) (by decide) (by decide) (by decide) (by decide)
  obtain ⟨b90, g90⟩ : ∃ z, z = h0.size := ⟨_, rfl⟩
  rw [← g90] at A90 st90
  have Z91 : n0 ≤ h90.size := Nat.le_trans Z0 E90.1
  have K0_91 : Keep h0 h90 [] := (Keep.refl h0 []).ext E90
  have O91 : Old Z n0 h90 := X00.ext E90
  have lo_b90 : h0.size ≤ b90 := Nat.le_of_eq g90.symm
  have g_b90 : n0 ≤ b90 := Nat.le_trans Z0 lo_b90
  have l0_b90 : h0.size ≤ b90 := Nat.le_trans (Keep.refl h0 []).1 lo_b90
  have V_b90 : Arv Z h90 b90 k90 .char (1 : Int32) [(.int (0 : Int32))] (.int (0 : Int32)) := (Arv.new A90 (by decide)).pad (pad_rep [] (.int (0 : Int32)) 1)
  obtain ⟨clq92, Arq92, qaq92, Sq92, Nq92, Hq92, Gq92⟩ := id V_b90
  have hinq92 : ¬ ((0 : Int32) < 0 ∨ clq92.slots.size ≤ ((0 : Int32)).toNatClampNeg) := inb_of Sq92 ⟨by decide, by decide⟩
  obtain ⟨T93, h93, X93, e93, W93, st93⟩ := stC X90 hx hZ e90 Arq92 (j := (0 : Int32)) hinq92 (g := (mkF m 15 #[.val (.long q0), .second, .val (.long q1), .second, .val (.long q2), .second, .val (.long q3), .second, .val (.long q4), .second, .val (.int p5), .unset, .unset, .unset, .unset, .unset, .unset, .unset, .unset] [(.int ((((p5.toUInt32 >>> ((8 : Int32) &&& 31).toUInt32).toInt32) &&& (255 : Int32)).toUInt32.toUInt16.toUInt32.toInt32)), (.int (0 : Int32)), (.ref b90), (.ref b90)])) rfl rfl (hb hby at_15)
  have V93 : Arv Z h93 b90 k90 .char (1 : Int32) [(.int (nar .char ((((p5.toUInt32 >>> ((8 : Int32) &&& 31).toUInt32).toInt32) &&& (255 : Int32)).toUInt32.toUInt16.toUInt32.toInt32)))] (.int (0 : Int32)) := Arv.set Arq92 qaq92 Sq92 Nq92 Hq92 Gq92 (fits_nar_char _) W93 0 rfl (Nat.le_of_ble_eq_true rfl)
  have Z94 : n0 ≤ h93.size := Nat.le_trans Z91 (Keep.of_wr W93).1
  have K0_94 : Keep h0 h93 [] := K0_91.wr W93 (Or.inr l0_b90)
  have O94 : Old Z n0 h93 := O91.wr W93 g_b90
  have N93 := Fr.snoc X93 N0 g_b90
  obtain ⟨T95, h95, k95, X95, e95, E95, A95, st95⟩ := newP X93 hx hZ (W 0 rfl) e93 (g := (mkF m 19 #[.val (.long q0), .second, .val (.long q1), .second, .val (.long q2), .second, .val (.long q3), .second, .val (.long q4), .second, .val (.int p5), .val (.ref b90), .unset, .unset, .unset, .unset, .unset, .unset, .unset] [(.int (1 : Int32))])) rfl (hb hby at_19) rfl (by decide) (cap := 1) (by decide) (by decide) (by decide) (by decide)
  obtain ⟨b95, g95⟩ : ∃ z, z = h93.size := ⟨_, rfl⟩
  rw [← g95] at A95 st95
  have Z96 : n0 ≤ h95.size := Nat.le_trans Z94 E95.1
  have K0_96 : Keep h0 h95 [] := K0_94.ext E95
  have O96 : Old Z n0 h95 := O94.ext E95
  have lo_b95 : h93.size ≤ b95 := Nat.le_of_eq g95.symm
  have g_b95 : n0 ≤ b95 := Nat.le_trans Z94 lo_b95
  have l0_b95 : h0.size ≤ b95 := Nat.le_trans K0_94.1 lo_b95
  have V_b95 : Arv Z h95 b95 k95 .char (1 : Int32) [(.int (0 : Int32))] (.int (0 : Int32)) := (Arv.new A95 (by decide)).pad (pad_rep [] (.int (0 : Int32)) 1)
  obtain ⟨clq97, Arq97, qaq97, Sq97, Nq97, Hq97, Gq97⟩ := id V_b95
  have hinq97 : ¬ ((0 : Int32) < 0 ∨ clq97.slots.size ≤ ((0 : Int32)).toNatClampNeg) := inb_of Sq97 ⟨by decide, by decide⟩
  obtain ⟨T98, h98, X98, e98, W98, st98⟩ := stC X95 hx hZ e95 Arq97 (j := (0 : Int32)) hinq97 (g := (mkF m 33 #[.val (.long q0), .second, .val (.long q1), .second, .val (.long q2), .second, .val (.long q3), .second, .val (.long q4), .second, .val (.int p5), .val (.ref b90), .unset, .unset, .unset, .unset, .unset, .unset, .unset] [(.int ((((p5.toUInt32 >>> ((16 : Int32) &&& 31).toUInt32).toInt32) &&& (255 : Int32)).toUInt32.toUInt16.toUInt32.toInt32)), (.int (0 : Int32)), (.ref b95), (.ref b95)])) rfl rfl (hb hby at_33)
  have V98 : Arv Z h98 b95 k95 .char (1 : Int32) [(.int (nar .char ((((p5.toUInt32 >>> ((16 : Int32) &&& 31).toUInt32).toInt32) &&& (255 : Int32)).toUInt32.toUInt16.toUInt32.toInt32)))] (.int (0 : Int32)) := Arv.set Arq97 qaq97 Sq97 Nq97 Hq97 Gq97 (fits_nar_char _) W98 0 rfl (Nat.le_of_ble_eq_true rfl)
  have Z99 : n0 ≤ h98.size := Nat.le_trans Z96 (Keep.of_wr W98).1
  have K0_99 : Keep h0 h98 [] := K0_96.wr W98 (Or.inr l0_b95)
  have O99 : Old Z n0 h98 := O96.wr W98 g_b95
  have N98 := Fr.snoc X98 N93 g_b95
  obtain ⟨T100, h100, X100, e100, E100, A100, D100, -, st100⟩ := newO X98 hx hZ hown (W 1 rfl) (W 2 rfl) (W 3 rfl) e98 (g := (mkF m 65 #[.val (.long q0), .second, .val (.long q1), .second, .val (.long q2), .second, .val (.long q3), .second, .val (.long q4), .second, .val (.int p5), .val (.ref b90), .val (.ref b95), .val .null, .unset, .unset, .unset, .unset, .unset] [])) rfl (hb hby at_65) (by decide) (by decide)
  obtain ⟨b100, g100⟩ : ∃ z, z = h98.size := ⟨_, rfl⟩
  rw [← g100] at A100 D100 st100
  have Z101 : n0 ≤ h100.size := Nat.le_trans Z99 E100.1
  have K0_101 : Keep h0 h100 [] := K0_99.ext E100
  have O101 : Old Z n0 h100 := O99.ext E100
  have lo_b100 : h98.size ≤ b100 := Nat.le_of_eq g100.symm
  have g_b100 : n0 ≤ b100 := Nat.le_trans Z99 lo_b100
  have l0_b100 : h0.size ≤ b100 := Nat.le_trans K0_99.1 lo_b100
  have F_coder_b100 : Fld Z h100 b100 "java/lang/String" "coder" "B" (.int (0 : Int32)) := D100 (Or.inr (W 27 rfl)) (ty := .byte) (by decide)
  have F_value_b100 : Fld Z h100 b100 "java/lang/String" "value" "[B" .null := D100 (Or.inr (W 29 rfl)) (ty := (.array .byte)) (by decide)
  have hws102 := own_hws hw
  have hp102 : ∀ c ∈ ([(nar .char ((((p5.toUInt32 >>> ((16 : Int32) &&& 31).toUInt32).toInt32) &&& (255 : Int32)).toUInt32.toUInt16.toUInt32.toInt32))] : List Int32), ¬ c < 0 ∧ ¬ (255 : Int32) < c := by
    intro c hc
    simp only [List.mem_cons, List.not_mem_nil, or_false] at hc
    rcases hc with rfl <;> exact own_char255 _
  have f103 := (V98.ext E100)
  -- pc 71: java/lang/String.<init>
  obtain ⟨_, _, ⟨T102, L102, k102, n102⟩, -, X102, ⟨Lc102, hQ102, l102, y102, z102⟩, st102⟩ := X100.specialBack hx (y := y5) rfl hown (mvT hZ (W 4 rfl)) (mvT hZ (W 5 rfl)) (mvT hZ (W 6 rfl)) (by decide) (StrChars.Road.backV (W := 1) hZ hws102 (kI := 4) (W 2 rfl) (cs := ([(nar .char ((((p5.toUInt32 >>> ((16 : Int32) &&& 31).toUInt32).toInt32) &&& (255 : Int32)).toUInt32.toUInt16.toUInt32.toInt32))] : List Int32)) (bs := (([(nar .char ((((p5.toUInt32 >>> ((16 : Int32) &&& 31).toUInt32).toInt32) &&& (255 : Int32)).toUInt32.toUInt16.toUInt32.toInt32))] : List Int32)).map (fun c => c.toInt8.toInt32)) (n := 1) g_b100 Z101 A100 F_value_b100 F_coder_b100 f103 (O_cs.ext O101.2) P_cs rfl rfl (by decide) (by decide) hp102 rfl (by decide) (by decide)) (g := (mkF m 71 #[.val (.long q0), .second, .val (.long q1), .second, .val (.long q2), .second, .val (.long q3), .second, .val (.long q4), .second, .val (.int p5), .val (.ref b90), .val (.ref b95), .val .null, .unset, .unset, .unset, .unset, .unset] [(.ref b95), (.ref b100), (.ref b100)])) rfl (by rw [hml]; rfl) (Steps.refl _) (a := b100) (argsL := [(.ref b95)]) (rest := [(.ref b100)]) (lenOf pd___C_V rfl) rfl (by show 2 * 0 + _ ≤ _; exact Nat.le_of_eq rfl) (hb hby at_71) (fun _ _ => ⟨rfl, e100, (by decide : 3 + 1 ≤ _), (by decide : 6 + 1 ≤ _)⟩)
  dsimp only [Pt.U, Pt.locs, Pt.cells, Pt.slots] at X102 l102 y102 z102 st102 hQ102
  subst l102 y102 z102
  obtain ⟨rfl, N102q, K102, E102x, C102x, t102, kb102, gt102, lt102, nt102, V102x, B102x⟩ := hQ102
  have N102 := Fr.app N98 N102q
  have Z104 : n0 ≤ T102.heap.size := Nat.le_trans Z101 K102.1
  have K0_104 : Keep h0 T102.heap [] := K0_101.trans K102 (allS (Or.inr l0_b100) all0)
  have O104 : Old Z n0 T102.heap := O101.keep K102 (allS g_b100 all0)
  have lo_t102 : h100.size ≤ t102 := lt102
  have g_t102 : n0 ≤ t102 := Nat.le_trans Z101 lo_t102
  have l0_t102 : h0.size ≤ t102 := Nat.le_trans K0_101.1 lo_t102
  obtain ⟨T105, h105, X105, e105, E105, A105, D105, -, st105⟩ := newO X102 hx hZ hown (W 30 rfl) (W 31 rfl) (W 32 rfl) rfl (g := (mkF m 80 #[.val (.long q0), .second, .val (.long q1), .second, .val (.long q2), .second, .val (.long q3), .second, .val (.long q4), .second, .val (.int p5), .val (.ref b90), .val (.ref b95), .val .null, .val (.ref b100), .unset, .unset, .unset, .unset] [])) rfl (hb hby at_80) (by decide) (by decide)
  obtain ⟨b105, g105⟩ : ∃ z, z = T102.heap.size := ⟨_, rfl⟩
  rw [← g105] at A105 D105 st105
  have Z106 : n0 ≤ h105.size := Nat.le_trans Z104 E105.1
  have K0_106 : Keep h0 h105 [] := K0_104.ext E105
  have O106 : Old Z n0 h105 := O104.ext E105
  have lo_b105 : T102.heap.size ≤ b105 := Nat.le_of_eq g105.symm
  have g_b105 : n0 ≤ b105 := Nat.le_trans Z104 lo_b105
  have l0_b105 : h0.size ≤ b105 := Nat.le_trans K0_104.1 lo_b105
  have F_created_b105 : Fld Z h105 b105 "com/example/armor_for_retries/armorforretries/bench/Tally" "created" "J" (.long (0 : Int64)) := D105 (Or.inr (W 38 rfl)) (ty := .long) (by decide)
  have F_windowed_b105 : Fld Z h105 b105 "com/example/armor_for_retries/armorforretries/bench/Tally" "windowed" "J" (.long (0 : Int64)) := D105 (Or.inr (W 40 rfl)) (ty := .long) (by decide)
  have F_errors_b105 : Fld Z h105 b105 "com/example/armor_for_retries/armorforretries/bench/Tally" "errors" "J" (.long (0 : Int64)) := D105 (Or.inr (W 42 rfl)) (ty := .long) (by decide)
  have F_firstError_b105 : Fld Z h105 b105 "com/example/armor_for_retries/armorforretries/bench/Tally" "firstError" "Ljava/lang/String;" .null := D105 (Or.inr (W 44 rfl)) (ty := (.object "java/lang/String")) (by decide)
  -- pc 91: com/example/armor_for_retries/armorforretries/bench/Tally.<init>
  obtain ⟨_, _, ⟨T107, L107, k107, n107⟩, -, X107, ⟨Lc107, hQ107, l107, y107, z107⟩, st107⟩ := X105.specialBack hx (y := y0) rfl hown (mvT hZ (W 33 rfl)) (mvT hZ (W 34 rfl)) (mvT hZ (W 35 rfl)) (by decide) (backOf (W := 1) (rmTI l Z a0 G1 hG [] b105 q0 q4 q2 .null h105 n0 Z106 O106 A105 F_created_b105 F_windowed_b105 F_errors_b105 F_firstError_b105 g_b105 rfl) hZ (W 35 rfl) (W 32 rfl) (by decide) (by decide)) (g := (mkF m 91 #[.val (.long q0), .second, .val (.long q1), .second, .val (.long q2), .second, .val (.long q3), .second, .val (.long q4), .second, .val (.int p5), .val (.ref b90), .val (.ref b95), .val .null, .val (.ref b100), .unset, .unset, .unset, .unset] [.null, (.long q2), (.long q4), (.long q0), (.ref b105), (.ref b105)])) rfl (by rw [hml]; rfl) (Steps.refl _) (a := b105) (argsL := [(.long q0), (.long q4), (.long q2), .null]) (rest := [(.ref b105)]) (lenOf pd__JJJLjava_lang_String__V rfl) rfl (by show 2 * 0 + _ ≤ _; exact Nat.le_of_eq rfl) (hb hby at_91) (fun _ _ => ⟨rfl, e105, (by decide : 5 + 0 ≤ _), (by decide : 11 + 0 ≤ _)⟩)
  dsimp only [Pt.U, Pt.locs, Pt.cells, Pt.slots] at X107 l107 y107 z107 st107 hQ107
  subst l107 y107 z107
  obtain ⟨rfl, N107q, K107, f107_0, f107_1, f107_2, f107_3, f107_4⟩ := hQ107
  have N107 := Fr.app N102 N107q
  have Z108 : n0 ≤ T107.heap.size := Nat.le_trans Z106 K107.1
  have K0_108 : Keep h0 T107.heap [] := K0_106.trans K107 (allS (Or.inr l0_b105) all0)
  have O108 : Old Z n0 T107.heap := O106.keep K107 (allS g_b105 all0)
  obtain ⟨T109, h109, X109, e109, E109, A109, D109, -, st109⟩ := newO X107 hx hZ hown (W 30 rfl) (W 31 rfl) (W 32 rfl) rfl (g := (mkF m 96 #[.val (.long q0), .second, .val (.long q1), .second, .val (.long q2), .second, .val (.long q3), .second, .val (.long q4), .second, .val (.int p5), .val (.ref b90), .val (.ref b95), .val .null, .val (.ref b100), .val (.ref b105), .unset, .unset, .unset] [])) rfl (hb hby at_96) (by decide) (by decide)
  obtain ⟨b109, g109⟩ : ∃ z, z = T107.heap.size := ⟨_, rfl⟩
  rw [← g109] at A109 D109 st109
  have Z110 : n0 ≤ h109.size := Nat.le_trans Z108 E109.1
  have K0_110 : Keep h0 h109 [] := K0_108.ext E109
  have O110 : Old Z n0 h109 := O108.ext E109
  have lo_b109 : T107.heap.size ≤ b109 := Nat.le_of_eq g109.symm
  have g_b109 : n0 ≤ b109 := Nat.le_trans Z108 lo_b109
  have l0_b109 : h0.size ≤ b109 := Nat.le_trans K0_108.1 lo_b109
  have F_created_b109 : Fld Z h109 b109 "com/example/armor_for_retries/armorforretries/bench/Tally" "created" "J" (.long (0 : Int64)) := D109 (Or.inr (W 38 rfl)) (ty := .long) (by decide)
  have F_windowed_b109 : Fld Z h109 b109 "com/example/armor_for_retries/armorforretries/bench/Tally" "windowed" "J" (.long (0 : Int64)) := D109 (Or.inr (W 40 rfl)) (ty := .long) (by decide)
  have F_errors_b109 : Fld Z h109 b109 "com/example/armor_for_retries/armorforretries/bench/Tally" "errors" "J" (.long (0 : Int64)) := D109 (Or.inr (W 42 rfl)) (ty := .long) (by decide)
  have F_firstError_b109 : Fld Z h109 b109 "com/example/armor_for_retries/armorforretries/bench/Tally" "firstError" "Ljava/lang/String;" .null := D109 (Or.inr (W 44 rfl)) (ty := (.object "java/lang/String")) (by decide)
  -- pc 111: com/example/armor_for_retries/armorforretries/bench/Tally.<init>
  obtain ⟨_, _, ⟨T111, L111, k111, n111⟩, -, X111, ⟨Lc111, hQ111, l111, y111, z111⟩, st111⟩ := X109.specialBack hx (y := y0) rfl hown (mvT hZ (W 33 rfl)) (mvT hZ (W 34 rfl)) (mvT hZ (W 35 rfl)) (by decide) (backOf (W := 1) (rmTI l Z a0 G1 hG [] b109 q1 (q4 ^^^ (-1 : Int64)) q3 (.ref b100) h109 n0 Z110 O110 A109 F_created_b109 F_windowed_b109 F_errors_b109 F_firstError_b109 g_b109 rfl) hZ (W 35 rfl) (W 32 rfl) (by decide) (by decide)) (g := (mkF m 111 #[.val (.long q0), .second, .val (.long q1), .second, .val (.long q2), .second, .val (.long q3), .second, .val (.long q4), .second, .val (.int p5), .val (.ref b90), .val (.ref b95), .val .null, .val (.ref b100), .val (.ref b105), .unset, .unset, .unset] [(.ref b100), (.long q3), (.long (q4 ^^^ (-1 : Int64))), (.long q1), (.ref b109), (.ref b109)])) rfl (by rw [hml]; rfl) (Steps.refl _) (a := b109) (argsL := [(.long q1), (.long (q4 ^^^ (-1 : Int64))), (.long q3), (.ref b100)]) (rest := [(.ref b109)]) (lenOf pd__JJJLjava_lang_String__V rfl) rfl (by show 2 * 0 + _ ≤ _; exact Nat.le_of_eq rfl) (hb hby at_111) (fun _ _ => ⟨rfl, e109, (by decide : 6 + 0 ≤ _), (by decide : 15 + 0 ≤ _)⟩)
  dsimp only [Pt.U, Pt.locs, Pt.cells, Pt.slots] at X111 l111 y111 z111 st111 hQ111
  subst l111 y111 z111
  obtain ⟨rfl, N111q, K111, f111_0, f111_1, f111_2, f111_3, f111_4⟩ := hQ111
  have N111 := Fr.app N107 N111q
  have Z112 : n0 ≤ T111.heap.size := Nat.le_trans Z110 K111.1
  have K0_112 : Keep h0 T111.heap [] := K0_110.trans K111 (allS (Or.inr l0_b109) all0)
  have O112 : Old Z n0 T111.heap := O110.keep K111 (allS g_b109 all0)
  have f114 := ((f107_0.ext E109).keep K111)
  have f115 := ((f107_1.ext E109).keep K111 (ninS (Nat.ne_of_lt (Nat.lt_of_lt_of_le f107_0.lt lo_b109)) nin0))
  have f116 := ((f107_2.ext E109).keep K111 (ninS (Nat.ne_of_lt (Nat.lt_of_lt_of_le f107_0.lt lo_b109)) nin0))
  have f117 := ((f107_3.ext E109).keep K111 (ninS (Nat.ne_of_lt (Nat.lt_of_lt_of_le f107_0.lt lo_b109)) nin0))
  have f118 := ((f107_4.ext E109).keep K111 (ninS (Nat.ne_of_lt (Nat.lt_of_lt_of_le f107_0.lt lo_b109)) nin0))
  obtain ⟨cq113, kq113, q113a, q113b, q113c⟩ := isOf hZ rfl f114
  -- pc 120: com/example/armor_for_retries/armorforretries/bench/Tally.plus
  obtain ⟨_, _, ⟨T113, L113, k113, n113⟩, -, X113, ⟨Lc113, hQ113, l113, y113, z113⟩, st113⟩ := X111.virtualBack hx (y := y4) (z := y4) hown (mvT hZ (W 46 rfl)) (mvT hZ (W 47 rfl)) (notFace_of_selects (args := #[]) (mvT hZ (W 49 rfl))) (mvT hZ (W 49 rfl)) (mvT hZ (W 48 rfl)) (by decide) (backOf (W := 0) (rmplusN l Z a0 G1 hG [] b105 b109 q0 q4 q2 q1 (q4 ^^^ (-1 : Int64)) q3 (.ref b100) T111.heap n0 Z112 O112 f114 f115 f116 f117 f118 f111_0 f111_1 f111_2 f111_3 f111_4 rfl) hZ (W 50 rfl) (W 32 rfl) (by decide) (by decide)) q113a q113c (g := (mkF m 120 #[.val (.long q0), .second, .val (.long q1), .second, .val (.long q2), .second, .val (.long q3), .second, .val (.long q4), .second, .val (.int p5), .val (.ref b90), .val (.ref b95), .val .null, .val (.ref b100), .val (.ref b105), .val (.ref b109), .unset, .unset] [(.ref b109), (.ref b105)])) rfl (by rw [hml]; rfl) (Steps.refl _) (argsL := [(.ref b109)]) (rest := []) (lenOf pd__Lcom_example_armor_for_retries_armorforretries_bench_Tally__Lcom_example_armor_for_retries_armorforretries_bench_Tally_ rfl) rfl (by show 2 * 0 + _ ≤ _; exact Nat.le_of_eq rfl) (hb hby at_120) (fun _ _ => ⟨rfl, rfl, (by decide : 6 + 1 ≤ _), (by decide : 15 + 4 ≤ _)⟩)
  dsimp only [Pt.U, Pt.locs, Pt.cells, Pt.slots] at X113 l113 y113 z113 st113 hQ113
  subst l113 y113 z113
  obtain ⟨b_113, rfl, N113q, K113, f113_0, f113_1, f113_2, f113_3, f113_4⟩ := hQ113
  have N113 := Fr.app N111 N113q
  have Z119 : n0 ≤ T113.heap.size := Nat.le_trans Z112 K113.1
  have K0_119 : Keep h0 T113.heap [] := K0_112.trans K113 all0
  have O119 : Old Z n0 T113.heap := O112.keep K113 all0
  have lo_b_113 : T111.heap.size ≤ b_113 := f113_0
  have g_b_113 : n0 ≤ b_113 := Nat.le_trans Z112 lo_b_113
  have l0_b_113 : h0.size ≤ b_113 := Nat.le_trans K0_112.1 lo_b_113
  obtain ⟨cq120, kq120, q120a, q120b, q120c⟩ := isOf hZ rfl f113_1
  -- pc 143: com/example/armor_for_retries/armorforretries/bench/Tally.created
  obtain ⟨_, _, ⟨T120, L120, k120, n120⟩, -, X120, ⟨Lc120, hQ120, l120, y120, z120⟩, st120⟩ := X113.virtualBack hx (y := y1) (z := y1) hown (mvT hZ (W 53 rfl)) (mvT hZ (W 54 rfl)) (notFace_of_selects (args := #[]) (mvT hZ (W 56 rfl))) (mvT hZ (W 56 rfl)) (mvT hZ (W 55 rfl)) (by decide) (backOf (W := 0) (rmG_created l Z a0 G1 hG [] b_113 (q0 + q1) T113.heap n0 Z119 O119 f113_2) hZ (W 57 rfl) (W 32 rfl) (by decide) (by decide)) q120a q120c (g := (mkF m 143 #[.val (.long q0), .second, .val (.long q1), .second, .val (.long q2), .second, .val (.long q3), .second, .val (.long q4), .second, .val (.int p5), .val (.ref b90), .val (.ref b95), .val .null, .val (.ref b100), .val (.ref b105), .val (.ref b109), .val (.ref b_113), .val (.ref b100)] [(.ref b_113)])) rfl (by rw [hml]; rfl) (Steps.refl _) (argsL := []) (rest := []) (lenOf pd___J rfl) rfl (by show 2 * 0 + _ ≤ _; exact Nat.le_of_eq rfl) (hb hby at_143) (fun _ _ => ⟨rfl, rfl, (by decide : 7 + 0 ≤ _), (by decide : 19 + 0 ≤ _)⟩)
  dsimp only [Pt.U, Pt.locs, Pt.cells, Pt.slots] at X120 l120 y120 z120 st120 hQ120
  subst l120 y120 z120
  obtain ⟨rfl, N120q, eq120⟩ := hQ120
  have N120 := Fr.app N113 N120q
  obtain ⟨cq121, kq121, q121a, q121b, q121c⟩ := isOf hZ eq120 f113_1
  -- pc 155: com/example/armor_for_retries/armorforretries/bench/Tally.errors
  obtain ⟨_, _, ⟨T121, L121, k121, n121⟩, -, X121, ⟨Lc121, hQ121, l121, y121, z121⟩, st121⟩ := X120.virtualBack hx (y := y2) (z := y2) hown (mvT hZ (W 58 rfl)) (mvT hZ (W 59 rfl)) (notFace_of_selects (args := #[]) (mvT hZ (W 61 rfl))) (mvT hZ (W 61 rfl)) (mvT hZ (W 60 rfl)) (by decide) (backOf (W := 0) (rmG_errors l Z a0 G1 hG [] b_113 (q2 + q3) T113.heap n0 Z119 O119 f113_3) hZ (W 62 rfl) (W 32 rfl) (by decide) (by decide)) q121a q121c (g := (mkF m 155 #[.val (.long q0), .second, .val (.long q1), .second, .val (.long q2), .second, .val (.long q3), .second, .val (.long q4), .second, .val (.int p5), .val (.ref b90), .val (.ref b95), .val .null, .val (.ref b100), .val (.ref b105), .val (.ref b109), .val (.ref b_113), .val (.ref b100)] [(.ref b_113)])) rfl (by rw [hml]; rfl) (Steps.refl _) (argsL := []) (rest := []) (lenOf pd___J rfl) rfl (by show 2 * 0 + _ ≤ _; exact Nat.le_of_eq rfl) (hb hby at_155) (fun _ _ => ⟨rfl, eq120, (by decide : 7 + 0 ≤ _), (by decide : 19 + 0 ≤ _)⟩)
  dsimp only [Pt.U, Pt.locs, Pt.cells, Pt.slots] at X121 l121 y121 z121 st121 hQ121
  subst l121 y121 z121
  obtain ⟨rfl, N121q, eq121⟩ := hQ121
  have N121 := Fr.app N120 N121q
  obtain ⟨cq122, kq122, q122a, q122b, q122c⟩ := isOf hZ eq121 f113_1
  -- pc 169: com/example/armor_for_retries/armorforretries/bench/Tally.firstError
  obtain ⟨_, _, ⟨T122, L122, k122, n122⟩, -, X122, ⟨Lc122, hQ122, l122, y122, z122⟩, st122⟩ := X121.virtualBack hx (y := y3) (z := y3) hown (mvT hZ (W 63 rfl)) (mvT hZ (W 64 rfl)) (notFace_of_selects (args := #[]) (mvT hZ (W 66 rfl))) (mvT hZ (W 66 rfl)) (mvT hZ (W 65 rfl)) (by decide) (backOf (W := 0) (rmG_firstError l Z a0 G1 hG [] b_113 (.ref b100) T113.heap n0 Z119 O119 f113_4 rfl) hZ (W 67 rfl) (W 32 rfl) (by decide) (by decide)) q122a q122c (g := (mkF m 169 #[.val (.long q0), .second, .val (.long q1), .second, .val (.long q2), .second, .val (.long q3), .second, .val (.long q4), .second, .val (.int p5), .val (.ref b90), .val (.ref b95), .val .null, .val (.ref b100), .val (.ref b105), .val (.ref b109), .val (.ref b_113), .val (.ref b100)] [(.ref b_113)])) rfl (by rw [hml]; rfl) (Steps.refl _) (argsL := []) (rest := []) (lenOf pd___Ljava_lang_String_ rfl) rfl (by show 2 * 0 + _ ≤ _; exact Nat.le_of_eq rfl) (hb hby at_169) (fun _ _ => ⟨rfl, eq121, (by decide : 7 + 0 ≤ _), (by decide : 19 + 0 ≤ _)⟩)
  dsimp only [Pt.U, Pt.locs, Pt.cells, Pt.slots] at X122 l122 y122 z122 st122 hQ122
  subst l122 y122 z122
  obtain ⟨rfl, N122q, eq122⟩ := hQ122
  have N122 := Fr.app N121 N122q
  obtain ⟨fs, hr, hrun, hended, hW, hsame⟩ := X122.leave (v := some (.int (1 : Int32))) (fun h => by rw [Bd.returns] at h; cases h)
  refine ⟨_, _, pre0 _ ?_, hrun, hended, _, _, rfl, ?_, ⟨_, rfl⟩, hW, hsame.mono (Nat.le_of_ble_eq_true rfl) (Nat.le_of_ble_eq_true rfl)⟩
  · show Steps p.tables e below (s₁.setTop (mkF m 0 #[.val (.long q0), .second, .val (.long q1), .second, .val (.long q2), .second, .val (.long q3), .second, .val (.long q4), .second, .val (.int p5), .unset, .unset, .unset, .unset, .unset, .unset, .unset, .unset] [])) _
    refine XS.iconst X0.here hx rfl (hb hby at_0) ?_
    show Steps p.tables e below (s₁.setTop (mkF m 1 #[.val (.long q0), .second, .val (.long q1), .second, .val (.long q2), .second, .val (.long q3), .second, .val (.long q4), .second, .val (.int p5), .unset, .unset, .unset, .unset, .unset, .unset, .unset, .unset] [(.int (1 : Int32))])) _
    refine st90 _ ?_
    show Steps p.tables e below (T90.setTop (mkF m 3 #[.val (.long q0), .second, .val (.long q1), .second, .val (.long q2), .second, .val (.long q3), .second, .val (.long q4), .second, .val (.int p5), .unset, .unset, .unset, .unset, .unset, .unset, .unset, .unset] [(.ref b90)])) _
    refine XS.dup X90.here hx rfl (hb hby at_3) rfl rfl ?_
    show Steps p.tables e below (T90.setTop (mkF m 4 #[.val (.long q0), .second, .val (.long q1), .second, .val (.long q2), .second, .val (.long q3), .second, .val (.long q4), .second, .val (.int p5), .unset, .unset, .unset, .unset, .unset, .unset, .unset, .unset] [(.ref b90), (.ref b90)])) _
    refine XS.iconst X90.here hx rfl (hb hby at_4) ?_
    show Steps p.tables e below (T90.setTop (mkF m 5 #[.val (.long q0), .second, .val (.long q1), .second, .val (.long q2), .second, .val (.long q3), .second, .val (.long q4), .second, .val (.int p5), .unset, .unset, .unset, .unset, .unset, .unset, .unset, .unset] [(.int (0 : Int32)), (.ref b90), (.ref b90)])) _
    refine XS.iload X90.here hx rfl (hb hby at_5) rfl ?_
    show Steps p.tables e below (T90.setTop (mkF m 7 #[.val (.long q0), .second, .val (.long q1), .second, .val (.long q2), .second, .val (.long q3), .second, .val (.long q4), .second, .val (.int p5), .unset, .unset, .unset, .unset, .unset, .unset, .unset, .unset] [(.int p5), (.int (0 : Int32)), (.ref b90), (.ref b90)])) _
    refine XS.bipush X90.here hx rfl (hb hby at_7) ?_
    show Steps p.tables e below (T90.setTop (mkF m 9 #[.val (.long q0), .second, .val (.long q1), .second, .val (.long q2), .second, .val (.long q3), .second, .val (.long q4), .second, .val (.int p5), .unset, .unset, .unset, .unset, .unset, .unset, .unset, .unset] [(.int (8 : Int32)), (.int p5), (.int (0 : Int32)), (.ref b90), (.ref b90)])) _
    refine XS.iushr X90.here hx rfl (hb hby at_9) rfl ?_
    show Steps p.tables e below (T90.setTop (mkF m 10 #[.val (.long q0), .second, .val (.long q1), .second, .val (.long q2), .second, .val (.long q3), .second, .val (.long q4), .second, .val (.int p5), .unset, .unset, .unset, .unset, .unset, .unset, .unset, .unset] [(.int ((p5.toUInt32 >>> ((8 : Int32) &&& 31).toUInt32).toInt32)), (.int (0 : Int32)), (.ref b90), (.ref b90)])) _
    refine XS.sipush X90.here hx rfl (hb hby at_10) ?_
    show Steps p.tables e below (T90.setTop (mkF m 13 #[.val (.long q0), .second, .val (.long q1), .second, .val (.long q2), .second, .val (.long q3), .second, .val (.long q4), .second, .val (.int p5), .unset, .unset, .unset, .unset, .unset, .unset, .unset, .unset] [(.int (255 : Int32)), (.int ((p5.toUInt32 >>> ((8 : Int32) &&& 31).toUInt32).toInt32)), (.int (0 : Int32)), (.ref b90), (.ref b90)])) _
    refine XS.iand X90.here hx rfl (hb hby at_13) rfl ?_
    show Steps p.tables e below (T90.setTop (mkF m 14 #[.val (.long q0), .second, .val (.long q1), .second, .val (.long q2), .second, .val (.long q3), .second, .val (.long q4), .second, .val (.int p5), .unset, .unset, .unset, .unset, .unset, .unset, .unset, .unset] [(.int (((p5.toUInt32 >>> ((8 : Int32) &&& 31).toUInt32).toInt32) &&& (255 : Int32))), (.int (0 : Int32)), (.ref b90), (.ref b90)])) _
    refine XS.i2c X90.here hx rfl (hb hby at_14) rfl ?_
    show Steps p.tables e below (T90.setTop (mkF m 15 #[.val (.long q0), .second, .val (.long q1), .second, .val (.long q2), .second, .val (.long q3), .second, .val (.long q4), .second, .val (.int p5), .unset, .unset, .unset, .unset, .unset, .unset, .unset, .unset] [(.int ((((p5.toUInt32 >>> ((8 : Int32) &&& 31).toUInt32).toInt32) &&& (255 : Int32)).toUInt32.toUInt16.toUInt32.toInt32)), (.int (0 : Int32)), (.ref b90), (.ref b90)])) _
    refine st93 _ ?_
    show Steps p.tables e below (T93.setTop (mkF m 16 #[.val (.long q0), .second, .val (.long q1), .second, .val (.long q2), .second, .val (.long q3), .second, .val (.long q4), .second, .val (.int p5), .unset, .unset, .unset, .unset, .unset, .unset, .unset, .unset] [(.ref b90)])) _
    refine XS.astore X93.here hx rfl (hb hby at_16) rfl rfl (l' := #[.val (.long q0), .second, .val (.long q1), .second, .val (.long q2), .second, .val (.long q3), .second, .val (.long q4), .second, .val (.int p5), .val (.ref b90), .unset, .unset, .unset, .unset, .unset, .unset, .unset]) rfl ?_
    show Steps p.tables e below (T93.setTop (mkF m 18 #[.val (.long q0), .second, .val (.long q1), .second, .val (.long q2), .second, .val (.long q3), .second, .val (.long q4), .second, .val (.int p5), .val (.ref b90), .unset, .unset, .unset, .unset, .unset, .unset, .unset] [])) _
    refine XS.iconst X93.here hx rfl (hb hby at_18) ?_
    show Steps p.tables e below (T93.setTop (mkF m 19 #[.val (.long q0), .second, .val (.long q1), .second, .val (.long q2), .second, .val (.long q3), .second, .val (.long q4), .second, .val (.int p5), .val (.ref b90), .unset, .unset, .unset, .unset, .unset, .unset, .unset] [(.int (1 : Int32))])) _
    refine st95 _ ?_
    show Steps p.tables e below (T95.setTop (mkF m 21 #[.val (.long q0), .second, .val (.long q1), .second, .val (.long q2), .second, .val (.long q3), .second, .val (.long q4), .second, .val (.int p5), .val (.ref b90), .unset, .unset, .unset, .unset, .unset, .unset, .unset] [(.ref b95)])) _
    refine XS.dup X95.here hx rfl (hb hby at_21) rfl rfl ?_
    show Steps p.tables e below (T95.setTop (mkF m 22 #[.val (.long q0), .second, .val (.long q1), .second, .val (.long q2), .second, .val (.long q3), .second, .val (.long q4), .second, .val (.int p5), .val (.ref b90), .unset, .unset, .unset, .unset, .unset, .unset, .unset] [(.ref b95), (.ref b95)])) _
    refine XS.iconst X95.here hx rfl (hb hby at_22) ?_
    show Steps p.tables e below (T95.setTop (mkF m 23 #[.val (.long q0), .second, .val (.long q1), .second, .val (.long q2), .second, .val (.long q3), .second, .val (.long q4), .second, .val (.int p5), .val (.ref b90), .unset, .unset, .unset, .unset, .unset, .unset, .unset] [(.int (0 : Int32)), (.ref b95), (.ref b95)])) _
    refine XS.iload X95.here hx rfl (hb hby at_23) rfl ?_
    show Steps p.tables e below (T95.setTop (mkF m 25 #[.val (.long q0), .second, .val (.long q1), .second, .val (.long q2), .second, .val (.long q3), .second, .val (.long q4), .second, .val (.int p5), .val (.ref b90), .unset, .unset, .unset, .unset, .unset, .unset, .unset] [(.int p5), (.int (0 : Int32)), (.ref b95), (.ref b95)])) _
    refine XS.bipush X95.here hx rfl (hb hby at_25) ?_
    show Steps p.tables e below (T95.setTop (mkF m 27 #[.val (.long q0), .second, .val (.long q1), .second, .val (.long q2), .second, .val (.long q3), .second, .val (.long q4), .second, .val (.int p5), .val (.ref b90), .unset, .unset, .unset, .unset, .unset, .unset, .unset] [(.int (16 : Int32)), (.int p5), (.int (0 : Int32)), (.ref b95), (.ref b95)])) _
    refine XS.iushr X95.here hx rfl (hb hby at_27) rfl ?_
    show Steps p.tables e below (T95.setTop (mkF m 28 #[.val (.long q0), .second, .val (.long q1), .second, .val (.long q2), .second, .val (.long q3), .second, .val (.long q4), .second, .val (.int p5), .val (.ref b90), .unset, .unset, .unset, .unset, .unset, .unset, .unset] [(.int ((p5.toUInt32 >>> ((16 : Int32) &&& 31).toUInt32).toInt32)), (.int (0 : Int32)), (.ref b95), (.ref b95)])) _
    refine XS.sipush X95.here hx rfl (hb hby at_28) ?_
    show Steps p.tables e below (T95.setTop (mkF m 31 #[.val (.long q0), .second, .val (.long q1), .second, .val (.long q2), .second, .val (.long q3), .second, .val (.long q4), .second, .val (.int p5), .val (.ref b90), .unset, .unset, .unset, .unset, .unset, .unset, .unset] [(.int (255 : Int32)), (.int ((p5.toUInt32 >>> ((16 : Int32) &&& 31).toUInt32).toInt32)), (.int (0 : Int32)), (.ref b95), (.ref b95)])) _
    refine XS.iand X95.here hx rfl (hb hby at_31) rfl ?_
    show Steps p.tables e below (T95.setTop (mkF m 32 #[.val (.long q0), .second, .val (.long q1), .second, .val (.long q2), .second, .val (.long q3), .second, .val (.long q4), .second, .val (.int p5), .val (.ref b90), .unset, .unset, .unset, .unset, .unset, .unset, .unset] [(.int (((p5.toUInt32 >>> ((16 : Int32) &&& 31).toUInt32).toInt32) &&& (255 : Int32))), (.int (0 : Int32)), (.ref b95), (.ref b95)])) _
    refine XS.i2c X95.here hx rfl (hb hby at_32) rfl ?_
    show Steps p.tables e below (T95.setTop (mkF m 33 #[.val (.long q0), .second, .val (.long q1), .second, .val (.long q2), .second, .val (.long q3), .second, .val (.long q4), .second, .val (.int p5), .val (.ref b90), .unset, .unset, .unset, .unset, .unset, .unset, .unset] [(.int ((((p5.toUInt32 >>> ((16 : Int32) &&& 31).toUInt32).toInt32) &&& (255 : Int32)).toUInt32.toUInt16.toUInt32.toInt32)), (.int (0 : Int32)), (.ref b95), (.ref b95)])) _
    refine st98 _ ?_
    show Steps p.tables e below (T98.setTop (mkF m 34 #[.val (.long q0), .second, .val (.long q1), .second, .val (.long q2), .second, .val (.long q3), .second, .val (.long q4), .second, .val (.int p5), .val (.ref b90), .unset, .unset, .unset, .unset, .unset, .unset, .unset] [(.ref b95)])) _
    refine XS.astore X98.here hx rfl (hb hby at_34) rfl rfl (l' := #[.val (.long q0), .second, .val (.long q1), .second, .val (.long q2), .second, .val (.long q3), .second, .val (.long q4), .second, .val (.int p5), .val (.ref b90), .val (.ref b95), .unset, .unset, .unset, .unset, .unset, .unset]) rfl ?_
    show Steps p.tables e below (T98.setTop (mkF m 36 #[.val (.long q0), .second, .val (.long q1), .second, .val (.long q2), .second, .val (.long q3), .second, .val (.long q4), .second, .val (.int p5), .val (.ref b90), .val (.ref b95), .unset, .unset, .unset, .unset, .unset, .unset] [])) _
    refine XS.iload X98.here hx rfl (hb hby at_36) rfl ?_
    show Steps p.tables e below (T98.setTop (mkF m 38 #[.val (.long q0), .second, .val (.long q1), .second, .val (.long q2), .second, .val (.long q3), .second, .val (.long q4), .second, .val (.int p5), .val (.ref b90), .val (.ref b95), .unset, .unset, .unset, .unset, .unset, .unset] [(.int p5)])) _
    refine XS.iconst X98.here hx rfl (hb hby at_38) ?_
    show Steps p.tables e below (T98.setTop (mkF m 39 #[.val (.long q0), .second, .val (.long q1), .second, .val (.long q2), .second, .val (.long q3), .second, .val (.long q4), .second, .val (.int p5), .val (.ref b90), .val (.ref b95), .unset, .unset, .unset, .unset, .unset, .unset] [(.int (1 : Int32)), (.int p5)])) _
    refine XS.iand X98.here hx rfl (hb hby at_39) rfl ?_
    show Steps p.tables e below (T98.setTop (mkF m 40 #[.val (.long q0), .second, .val (.long q1), .second, .val (.long q2), .second, .val (.long q3), .second, .val (.long q4), .second, .val (.int p5), .val (.ref b90), .val (.ref b95), .unset, .unset, .unset, .unset, .unset, .unset] [(.int (p5 &&& (1 : Int32)))])) _
    refine XS.ifYes X98.here hx rfl (pc0 := 40) (pc' := 55) rfl (hb hby at_40) rfl ((if0 _ _).trans (teq (hc40 : (p5 &&& (1 : Int32)) = (0 : Int32))).1) (by decide) (by decide) ?_
    show Steps p.tables e below (T98.setTop (mkF m 55 #[.val (.long q0), .second, .val (.long q1), .second, .val (.long q2), .second, .val (.long q3), .second, .val (.long q4), .second, .val (.int p5), .val (.ref b90), .val (.ref b95), .unset, .unset, .unset, .unset, .unset, .unset] [])) _
    refine XS.aconstNull X98.here hx rfl (hb hby at_55) ?_
    show Steps p.tables e below (T98.setTop (mkF m 56 #[.val (.long q0), .second, .val (.long q1), .second, .val (.long q2), .second, .val (.long q3), .second, .val (.long q4), .second, .val (.int p5), .val (.ref b90), .val (.ref b95), .unset, .unset, .unset, .unset, .unset, .unset] [.null])) _
    refine XS.astore X98.here hx rfl (hb hby at_56) rfl rfl (l' := #[.val (.long q0), .second, .val (.long q1), .second, .val (.long q2), .second, .val (.long q3), .second, .val (.long q4), .second, .val (.int p5), .val (.ref b90), .val (.ref b95), .val .null, .unset, .unset, .unset, .unset, .unset]) rfl ?_
    show Steps p.tables e below (T98.setTop (mkF m 58 #[.val (.long q0), .second, .val (.long q1), .second, .val (.long q2), .second, .val (.long q3), .second, .val (.long q4), .second, .val (.int p5), .val (.ref b90), .val (.ref b95), .val .null, .unset, .unset, .unset, .unset, .unset] [])) _
    refine XS.iload X98.here hx rfl (hb hby at_58) rfl ?_
    show Steps p.tables e below (T98.setTop (mkF m 60 #[.val (.long q0), .second, .val (.long q1), .second, .val (.long q2), .second, .val (.long q3), .second, .val (.long q4), .second, .val (.int p5), .val (.ref b90), .val (.ref b95), .val .null, .unset, .unset, .unset, .unset, .unset] [(.int p5)])) _
    refine XS.iconst X98.here hx rfl (hb hby at_60) ?_
    show Steps p.tables e below (T98.setTop (mkF m 61 #[.val (.long q0), .second, .val (.long q1), .second, .val (.long q2), .second, .val (.long q3), .second, .val (.long q4), .second, .val (.int p5), .val (.ref b90), .val (.ref b95), .val .null, .unset, .unset, .unset, .unset, .unset] [(.int (2 : Int32)), (.int p5)])) _
    refine XS.iand X98.here hx rfl (hb hby at_61) rfl ?_
    show Steps p.tables e below (T98.setTop (mkF m 62 #[.val (.long q0), .second, .val (.long q1), .second, .val (.long q2), .second, .val (.long q3), .second, .val (.long q4), .second, .val (.int p5), .val (.ref b90), .val (.ref b95), .val .null, .unset, .unset, .unset, .unset, .unset] [(.int (p5 &&& (2 : Int32)))])) _
    refine XS.ifNo X98.here hx rfl (hb hby at_62) rfl ((if0 _ _).trans (feq (hc62 : ¬ ((p5 &&& (2 : Int32)) = (0 : Int32)))).1) ?_
    show Steps p.tables e below (T98.setTop (mkF m 65 #[.val (.long q0), .second, .val (.long q1), .second, .val (.long q2), .second, .val (.long q3), .second, .val (.long q4), .second, .val (.int p5), .val (.ref b90), .val (.ref b95), .val .null, .unset, .unset, .unset, .unset, .unset] [])) _
    refine st100 _ ?_
    show Steps p.tables e below (T100.setTop (mkF m 68 #[.val (.long q0), .second, .val (.long q1), .second, .val (.long q2), .second, .val (.long q3), .second, .val (.long q4), .second, .val (.int p5), .val (.ref b90), .val (.ref b95), .val .null, .unset, .unset, .unset, .unset, .unset] [(.ref b100)])) _
    refine XS.dup X100.here hx rfl (hb hby at_68) rfl rfl ?_
    show Steps p.tables e below (T100.setTop (mkF m 69 #[.val (.long q0), .second, .val (.long q1), .second, .val (.long q2), .second, .val (.long q3), .second, .val (.long q4), .second, .val (.int p5), .val (.ref b90), .val (.ref b95), .val .null, .unset, .unset, .unset, .unset, .unset] [(.ref b100), (.ref b100)])) _
    refine XS.aload X100.here hx rfl (hb hby at_69) rfl rfl ?_
    show Steps p.tables e below (T100.setTop (mkF m 71 #[.val (.long q0), .second, .val (.long q1), .second, .val (.long q2), .second, .val (.long q3), .second, .val (.long q4), .second, .val (.int p5), .val (.ref b90), .val (.ref b95), .val .null, .unset, .unset, .unset, .unset, .unset] [(.ref b95), (.ref b100), (.ref b100)])) _
    refine st102.trans ?_
    show Steps p.tables e below (T102.setTop (mkF m 74 #[.val (.long q0), .second, .val (.long q1), .second, .val (.long q2), .second, .val (.long q3), .second, .val (.long q4), .second, .val (.int p5), .val (.ref b90), .val (.ref b95), .val .null, .unset, .unset, .unset, .unset, .unset] [(.ref b100)])) _
    refine XS.goto X102.here hx rfl (pc0 := 74) (pc' := 78) rfl (hb hby at_74) (by decide) (by decide) ?_
    show Steps p.tables e below (T102.setTop (mkF m 78 #[.val (.long q0), .second, .val (.long q1), .second, .val (.long q2), .second, .val (.long q3), .second, .val (.long q4), .second, .val (.int p5), .val (.ref b90), .val (.ref b95), .val .null, .unset, .unset, .unset, .unset, .unset] [(.ref b100)])) _
    refine XS.astore X102.here hx rfl (hb hby at_78) rfl rfl (l' := #[.val (.long q0), .second, .val (.long q1), .second, .val (.long q2), .second, .val (.long q3), .second, .val (.long q4), .second, .val (.int p5), .val (.ref b90), .val (.ref b95), .val .null, .val (.ref b100), .unset, .unset, .unset, .unset]) rfl ?_
    show Steps p.tables e below (T102.setTop (mkF m 80 #[.val (.long q0), .second, .val (.long q1), .second, .val (.long q2), .second, .val (.long q3), .second, .val (.long q4), .second, .val (.int p5), .val (.ref b90), .val (.ref b95), .val .null, .val (.ref b100), .unset, .unset, .unset, .unset] [])) _
    refine st105 _ ?_
    show Steps p.tables e below (T105.setTop (mkF m 83 #[.val (.long q0), .second, .val (.long q1), .second, .val (.long q2), .second, .val (.long q3), .second, .val (.long q4), .second, .val (.int p5), .val (.ref b90), .val (.ref b95), .val .null, .val (.ref b100), .unset, .unset, .unset, .unset] [(.ref b105)])) _
    refine XS.dup X105.here hx rfl (hb hby at_83) rfl rfl ?_
    show Steps p.tables e below (T105.setTop (mkF m 84 #[.val (.long q0), .second, .val (.long q1), .second, .val (.long q2), .second, .val (.long q3), .second, .val (.long q4), .second, .val (.int p5), .val (.ref b90), .val (.ref b95), .val .null, .val (.ref b100), .unset, .unset, .unset, .unset] [(.ref b105), (.ref b105)])) _
    refine XS.lloadN X105.here hx rfl (hb hby at_84) rfl ?_
    show Steps p.tables e below (T105.setTop (mkF m 85 #[.val (.long q0), .second, .val (.long q1), .second, .val (.long q2), .second, .val (.long q3), .second, .val (.long q4), .second, .val (.int p5), .val (.ref b90), .val (.ref b95), .val .null, .val (.ref b100), .unset, .unset, .unset, .unset] [(.long q0), (.ref b105), (.ref b105)])) _
    refine XS.lload X105.here hx rfl (hb hby at_85) rfl ?_
    show Steps p.tables e below (T105.setTop (mkF m 87 #[.val (.long q0), .second, .val (.long q1), .second, .val (.long q2), .second, .val (.long q3), .second, .val (.long q4), .second, .val (.int p5), .val (.ref b90), .val (.ref b95), .val .null, .val (.ref b100), .unset, .unset, .unset, .unset] [(.long q4), (.long q0), (.ref b105), (.ref b105)])) _
    refine XS.lload X105.here hx rfl (hb hby at_87) rfl ?_
    show Steps p.tables e below (T105.setTop (mkF m 89 #[.val (.long q0), .second, .val (.long q1), .second, .val (.long q2), .second, .val (.long q3), .second, .val (.long q4), .second, .val (.int p5), .val (.ref b90), .val (.ref b95), .val .null, .val (.ref b100), .unset, .unset, .unset, .unset] [(.long q2), (.long q4), (.long q0), (.ref b105), (.ref b105)])) _
    refine XS.aload X105.here hx rfl (hb hby at_89) rfl rfl ?_
    show Steps p.tables e below (T105.setTop (mkF m 91 #[.val (.long q0), .second, .val (.long q1), .second, .val (.long q2), .second, .val (.long q3), .second, .val (.long q4), .second, .val (.int p5), .val (.ref b90), .val (.ref b95), .val .null, .val (.ref b100), .unset, .unset, .unset, .unset] [.null, (.long q2), (.long q4), (.long q0), (.ref b105), (.ref b105)])) _
    refine st107.trans ?_
    show Steps p.tables e below (T107.setTop (mkF m 94 #[.val (.long q0), .second, .val (.long q1), .second, .val (.long q2), .second, .val (.long q3), .second, .val (.long q4), .second, .val (.int p5), .val (.ref b90), .val (.ref b95), .val .null, .val (.ref b100), .unset, .unset, .unset, .unset] [(.ref b105)])) _
    refine XS.astore X107.here hx rfl (hb hby at_94) rfl rfl (l' := #[.val (.long q0), .second, .val (.long q1), .second, .val (.long q2), .second, .val (.long q3), .second, .val (.long q4), .second, .val (.int p5), .val (.ref b90), .val (.ref b95), .val .null, .val (.ref b100), .val (.ref b105), .unset, .unset, .unset]) rfl ?_
    show Steps p.tables e below (T107.setTop (mkF m 96 #[.val (.long q0), .second, .val (.long q1), .second, .val (.long q2), .second, .val (.long q3), .second, .val (.long q4), .second, .val (.int p5), .val (.ref b90), .val (.ref b95), .val .null, .val (.ref b100), .val (.ref b105), .unset, .unset, .unset] [])) _
    refine st109 _ ?_
    show Steps p.tables e below (T109.setTop (mkF m 99 #[.val (.long q0), .second, .val (.long q1), .second, .val (.long q2), .second, .val (.long q3), .second, .val (.long q4), .second, .val (.int p5), .val (.ref b90), .val (.ref b95), .val .null, .val (.ref b100), .val (.ref b105), .unset, .unset, .unset] [(.ref b109)])) _
    refine XS.dup X109.here hx rfl (hb hby at_99) rfl rfl ?_
    show Steps p.tables e below (T109.setTop (mkF m 100 #[.val (.long q0), .second, .val (.long q1), .second, .val (.long q2), .second, .val (.long q3), .second, .val (.long q4), .second, .val (.int p5), .val (.ref b90), .val (.ref b95), .val .null, .val (.ref b100), .val (.ref b105), .unset, .unset, .unset] [(.ref b109), (.ref b109)])) _
    refine XS.lloadN X109.here hx rfl (hb hby at_100) rfl ?_
    show Steps p.tables e below (T109.setTop (mkF m 101 #[.val (.long q0), .second, .val (.long q1), .second, .val (.long q2), .second, .val (.long q3), .second, .val (.long q4), .second, .val (.int p5), .val (.ref b90), .val (.ref b95), .val .null, .val (.ref b100), .val (.ref b105), .unset, .unset, .unset] [(.long q1), (.ref b109), (.ref b109)])) _
    refine XS.lload X109.here hx rfl (hb hby at_101) rfl ?_
    show Steps p.tables e below (T109.setTop (mkF m 103 #[.val (.long q0), .second, .val (.long q1), .second, .val (.long q2), .second, .val (.long q3), .second, .val (.long q4), .second, .val (.int p5), .val (.ref b90), .val (.ref b95), .val .null, .val (.ref b100), .val (.ref b105), .unset, .unset, .unset] [(.long q4), (.long q1), (.ref b109), (.ref b109)])) _
    refine X109.ldc2Long hx hown (mvT hZ (W 45 rfl)) (g := (mkF m 103 #[.val (.long q0), .second, .val (.long q1), .second, .val (.long q2), .second, .val (.long q3), .second, .val (.long q4), .second, .val (.int p5), .val (.ref b90), .val (.ref b95), .val .null, .val (.ref b100), .val (.ref b105), .unset, .unset, .unset] [(.long q4), (.long q1), (.ref b109), (.ref b109)])) rfl (hb hby at_103) _ ?_
    show Steps p.tables e below (T109.setTop (mkF m 106 #[.val (.long q0), .second, .val (.long q1), .second, .val (.long q2), .second, .val (.long q3), .second, .val (.long q4), .second, .val (.int p5), .val (.ref b90), .val (.ref b95), .val .null, .val (.ref b100), .val (.ref b105), .unset, .unset, .unset] [(.long (-1 : Int64)), (.long q4), (.long q1), (.ref b109), (.ref b109)])) _
    refine XS.lxor X109.here hx rfl (hb hby at_106) rfl ?_
    show Steps p.tables e below (T109.setTop (mkF m 107 #[.val (.long q0), .second, .val (.long q1), .second, .val (.long q2), .second, .val (.long q3), .second, .val (.long q4), .second, .val (.int p5), .val (.ref b90), .val (.ref b95), .val .null, .val (.ref b100), .val (.ref b105), .unset, .unset, .unset] [(.long (q4 ^^^ (-1 : Int64))), (.long q1), (.ref b109), (.ref b109)])) _
    refine XS.lload X109.here hx rfl (hb hby at_107) rfl ?_
    show Steps p.tables e below (T109.setTop (mkF m 109 #[.val (.long q0), .second, .val (.long q1), .second, .val (.long q2), .second, .val (.long q3), .second, .val (.long q4), .second, .val (.int p5), .val (.ref b90), .val (.ref b95), .val .null, .val (.ref b100), .val (.ref b105), .unset, .unset, .unset] [(.long q3), (.long (q4 ^^^ (-1 : Int64))), (.long q1), (.ref b109), (.ref b109)])) _
    refine XS.aload X109.here hx rfl (hb hby at_109) rfl rfl ?_
    show Steps p.tables e below (T109.setTop (mkF m 111 #[.val (.long q0), .second, .val (.long q1), .second, .val (.long q2), .second, .val (.long q3), .second, .val (.long q4), .second, .val (.int p5), .val (.ref b90), .val (.ref b95), .val .null, .val (.ref b100), .val (.ref b105), .unset, .unset, .unset] [(.ref b100), (.long q3), (.long (q4 ^^^ (-1 : Int64))), (.long q1), (.ref b109), (.ref b109)])) _
    refine st111.trans ?_
    show Steps p.tables e below (T111.setTop (mkF m 114 #[.val (.long q0), .second, .val (.long q1), .second, .val (.long q2), .second, .val (.long q3), .second, .val (.long q4), .second, .val (.int p5), .val (.ref b90), .val (.ref b95), .val .null, .val (.ref b100), .val (.ref b105), .unset, .unset, .unset] [(.ref b109)])) _
    refine XS.astore X111.here hx rfl (hb hby at_114) rfl rfl (l' := #[.val (.long q0), .second, .val (.long q1), .second, .val (.long q2), .second, .val (.long q3), .second, .val (.long q4), .second, .val (.int p5), .val (.ref b90), .val (.ref b95), .val .null, .val (.ref b100), .val (.ref b105), .val (.ref b109), .unset, .unset]) rfl ?_
    show Steps p.tables e below (T111.setTop (mkF m 116 #[.val (.long q0), .second, .val (.long q1), .second, .val (.long q2), .second, .val (.long q3), .second, .val (.long q4), .second, .val (.int p5), .val (.ref b90), .val (.ref b95), .val .null, .val (.ref b100), .val (.ref b105), .val (.ref b109), .unset, .unset] [])) _
    refine XS.aload X111.here hx rfl (hb hby at_116) rfl rfl ?_
    show Steps p.tables e below (T111.setTop (mkF m 118 #[.val (.long q0), .second, .val (.long q1), .second, .val (.long q2), .second, .val (.long q3), .second, .val (.long q4), .second, .val (.int p5), .val (.ref b90), .val (.ref b95), .val .null, .val (.ref b100), .val (.ref b105), .val (.ref b109), .unset, .unset] [(.ref b105)])) _
    refine XS.aload X111.here hx rfl (hb hby at_118) rfl rfl ?_
    show Steps p.tables e below (T111.setTop (mkF m 120 #[.val (.long q0), .second, .val (.long q1), .second, .val (.long q2), .second, .val (.long q3), .second, .val (.long q4), .second, .val (.int p5), .val (.ref b90), .val (.ref b95), .val .null, .val (.ref b100), .val (.ref b105), .val (.ref b109), .unset, .unset] [(.ref b109), (.ref b105)])) _
    refine st113.trans ?_
    show Steps p.tables e below (T113.setTop (mkF m 123 #[.val (.long q0), .second, .val (.long q1), .second, .val (.long q2), .second, .val (.long q3), .second, .val (.long q4), .second, .val (.int p5), .val (.ref b90), .val (.ref b95), .val .null, .val (.ref b100), .val (.ref b105), .val (.ref b109), .unset, .unset] [(.ref b_113)])) _
    refine XS.astore X113.here hx rfl (hb hby at_123) rfl rfl (l' := #[.val (.long q0), .second, .val (.long q1), .second, .val (.long q2), .second, .val (.long q3), .second, .val (.long q4), .second, .val (.int p5), .val (.ref b90), .val (.ref b95), .val .null, .val (.ref b100), .val (.ref b105), .val (.ref b109), .val (.ref b_113), .unset]) rfl ?_
    show Steps p.tables e below (T113.setTop (mkF m 125 #[.val (.long q0), .second, .val (.long q1), .second, .val (.long q2), .second, .val (.long q3), .second, .val (.long q4), .second, .val (.int p5), .val (.ref b90), .val (.ref b95), .val .null, .val (.ref b100), .val (.ref b105), .val (.ref b109), .val (.ref b_113), .unset] [])) _
    refine XS.aload X113.here hx rfl (hb hby at_125) rfl rfl ?_
    show Steps p.tables e below (T113.setTop (mkF m 127 #[.val (.long q0), .second, .val (.long q1), .second, .val (.long q2), .second, .val (.long q3), .second, .val (.long q4), .second, .val (.int p5), .val (.ref b90), .val (.ref b95), .val .null, .val (.ref b100), .val (.ref b105), .val (.ref b109), .val (.ref b_113), .unset] [.null])) _
    refine XS.ifnullYes X113.here hx rfl (pc0 := 127) (pc' := 137) rfl (hb hby at_127) rfl (by decide) (by decide) ?_
    show Steps p.tables e below (T113.setTop (mkF m 137 #[.val (.long q0), .second, .val (.long q1), .second, .val (.long q2), .second, .val (.long q3), .second, .val (.long q4), .second, .val (.int p5), .val (.ref b90), .val (.ref b95), .val .null, .val (.ref b100), .val (.ref b105), .val (.ref b109), .val (.ref b_113), .unset] [])) _
    refine XS.aload X113.here hx rfl (hb hby at_137) rfl rfl ?_
    show Steps p.tables e below (T113.setTop (mkF m 139 #[.val (.long q0), .second, .val (.long q1), .second, .val (.long q2), .second, .val (.long q3), .second, .val (.long q4), .second, .val (.int p5), .val (.ref b90), .val (.ref b95), .val .null, .val (.ref b100), .val (.ref b105), .val (.ref b109), .val (.ref b_113), .unset] [(.ref b100)])) _
    refine XS.astore X113.here hx rfl (hb hby at_139) rfl rfl (l' := #[.val (.long q0), .second, .val (.long q1), .second, .val (.long q2), .second, .val (.long q3), .second, .val (.long q4), .second, .val (.int p5), .val (.ref b90), .val (.ref b95), .val .null, .val (.ref b100), .val (.ref b105), .val (.ref b109), .val (.ref b_113), .val (.ref b100)]) rfl ?_
    show Steps p.tables e below (T113.setTop (mkF m 141 #[.val (.long q0), .second, .val (.long q1), .second, .val (.long q2), .second, .val (.long q3), .second, .val (.long q4), .second, .val (.int p5), .val (.ref b90), .val (.ref b95), .val .null, .val (.ref b100), .val (.ref b105), .val (.ref b109), .val (.ref b_113), .val (.ref b100)] [])) _
    refine XS.aload X113.here hx rfl (hb hby at_141) rfl rfl ?_
    show Steps p.tables e below (T113.setTop (mkF m 143 #[.val (.long q0), .second, .val (.long q1), .second, .val (.long q2), .second, .val (.long q3), .second, .val (.long q4), .second, .val (.int p5), .val (.ref b90), .val (.ref b95), .val .null, .val (.ref b100), .val (.ref b105), .val (.ref b109), .val (.ref b_113), .val (.ref b100)] [(.ref b_113)])) _
    refine st120.trans ?_
    show Steps p.tables e below (T120.setTop (mkF m 146 #[.val (.long q0), .second, .val (.long q1), .second, .val (.long q2), .second, .val (.long q3), .second, .val (.long q4), .second, .val (.int p5), .val (.ref b90), .val (.ref b95), .val .null, .val (.ref b100), .val (.ref b105), .val (.ref b109), .val (.ref b_113), .val (.ref b100)] [(.long (q0 + q1))])) _
    refine XS.lloadN X120.here hx rfl (hb hby at_146) rfl ?_
    show Steps p.tables e below (T120.setTop (mkF m 147 #[.val (.long q0), .second, .val (.long q1), .second, .val (.long q2), .second, .val (.long q3), .second, .val (.long q4), .second, .val (.int p5), .val (.ref b90), .val (.ref b95), .val .null, .val (.ref b100), .val (.ref b105), .val (.ref b109), .val (.ref b_113), .val (.ref b100)] [(.long q0), (.long (q0 + q1))])) _
    refine XS.lloadN X120.here hx rfl (hb hby at_147) rfl ?_
    show Steps p.tables e below (T120.setTop (mkF m 148 #[.val (.long q0), .second, .val (.long q1), .second, .val (.long q2), .second, .val (.long q3), .second, .val (.long q4), .second, .val (.int p5), .val (.ref b90), .val (.ref b95), .val .null, .val (.ref b100), .val (.ref b105), .val (.ref b109), .val (.ref b_113), .val (.ref b100)] [(.long q1), (.long q0), (.long (q0 + q1))])) _
    refine XS.ladd X120.here hx rfl (hb hby at_148) rfl ?_
    show Steps p.tables e below (T120.setTop (mkF m 149 #[.val (.long q0), .second, .val (.long q1), .second, .val (.long q2), .second, .val (.long q3), .second, .val (.long q4), .second, .val (.int p5), .val (.ref b90), .val (.ref b95), .val .null, .val (.ref b100), .val (.ref b105), .val (.ref b109), .val (.ref b_113), .val (.ref b100)] [(.long (q0 + q1)), (.long (q0 + q1))])) _
    refine XS.lcmp X120.here hx rfl (hb hby at_149) rfl ?_
    show Steps p.tables e below (T120.setTop (mkF m 150 #[.val (.long q0), .second, .val (.long q1), .second, .val (.long q2), .second, .val (.long q3), .second, .val (.long q4), .second, .val (.int p5), .val (.ref b90), .val (.ref b95), .val .null, .val (.ref b100), .val (.ref b105), .val (.ref b109), .val (.ref b_113), .val (.ref b100)] [(.int (lcmpW (q0 + q1) (q0 + q1)))])) _
    refine XS.ifNo X120.here hx rfl (hb hby at_150) rfl ((if0 _ _).trans (teq ((lw_eq _ _).mpr rfl : (lcmpW (q0 + q1) (q0 + q1)) = (0 : Int32))).2) ?_
    show Steps p.tables e below (T120.setTop (mkF m 153 #[.val (.long q0), .second, .val (.long q1), .second, .val (.long q2), .second, .val (.long q3), .second, .val (.long q4), .second, .val (.int p5), .val (.ref b90), .val (.ref b95), .val .null, .val (.ref b100), .val (.ref b105), .val (.ref b109), .val (.ref b_113), .val (.ref b100)] [])) _
    refine XS.aload X120.here hx rfl (hb hby at_153) rfl rfl ?_
    show Steps p.tables e below (T120.setTop (mkF m 155 #[.val (.long q0), .second, .val (.long q1), .second, .val (.long q2), .second, .val (.long q3), .second, .val (.long q4), .second, .val (.int p5), .val (.ref b90), .val (.ref b95), .val .null, .val (.ref b100), .val (.ref b105), .val (.ref b109), .val (.ref b_113), .val (.ref b100)] [(.ref b_113)])) _
    refine st121.trans ?_
    show Steps p.tables e below (T121.setTop (mkF m 158 #[.val (.long q0), .second, .val (.long q1), .second, .val (.long q2), .second, .val (.long q3), .second, .val (.long q4), .second, .val (.int p5), .val (.ref b90), .val (.ref b95), .val .null, .val (.ref b100), .val (.ref b105), .val (.ref b109), .val (.ref b_113), .val (.ref b100)] [(.long (q2 + q3))])) _
    refine XS.lload X121.here hx rfl (hb hby at_158) rfl ?_
    show Steps p.tables e below (T121.setTop (mkF m 160 #[.val (.long q0), .second, .val (.long q1), .second, .val (.long q2), .second, .val (.long q3), .second, .val (.long q4), .second, .val (.int p5), .val (.ref b90), .val (.ref b95), .val .null, .val (.ref b100), .val (.ref b105), .val (.ref b109), .val (.ref b_113), .val (.ref b100)] [(.long q2), (.long (q2 + q3))])) _
    refine XS.lload X121.here hx rfl (hb hby at_160) rfl ?_
    show Steps p.tables e below (T121.setTop (mkF m 162 #[.val (.long q0), .second, .val (.long q1), .second, .val (.long q2), .second, .val (.long q3), .second, .val (.long q4), .second, .val (.int p5), .val (.ref b90), .val (.ref b95), .val .null, .val (.ref b100), .val (.ref b105), .val (.ref b109), .val (.ref b_113), .val (.ref b100)] [(.long q3), (.long q2), (.long (q2 + q3))])) _
    refine XS.ladd X121.here hx rfl (hb hby at_162) rfl ?_
    show Steps p.tables e below (T121.setTop (mkF m 163 #[.val (.long q0), .second, .val (.long q1), .second, .val (.long q2), .second, .val (.long q3), .second, .val (.long q4), .second, .val (.int p5), .val (.ref b90), .val (.ref b95), .val .null, .val (.ref b100), .val (.ref b105), .val (.ref b109), .val (.ref b_113), .val (.ref b100)] [(.long (q2 + q3)), (.long (q2 + q3))])) _
    refine XS.lcmp X121.here hx rfl (hb hby at_163) rfl ?_
    show Steps p.tables e below (T121.setTop (mkF m 164 #[.val (.long q0), .second, .val (.long q1), .second, .val (.long q2), .second, .val (.long q3), .second, .val (.long q4), .second, .val (.int p5), .val (.ref b90), .val (.ref b95), .val .null, .val (.ref b100), .val (.ref b105), .val (.ref b109), .val (.ref b_113), .val (.ref b100)] [(.int (lcmpW (q2 + q3) (q2 + q3)))])) _
    refine XS.ifNo X121.here hx rfl (hb hby at_164) rfl ((if0 _ _).trans (teq ((lw_eq _ _).mpr rfl : (lcmpW (q2 + q3) (q2 + q3)) = (0 : Int32))).2) ?_
    show Steps p.tables e below (T121.setTop (mkF m 167 #[.val (.long q0), .second, .val (.long q1), .second, .val (.long q2), .second, .val (.long q3), .second, .val (.long q4), .second, .val (.int p5), .val (.ref b90), .val (.ref b95), .val .null, .val (.ref b100), .val (.ref b105), .val (.ref b109), .val (.ref b_113), .val (.ref b100)] [])) _
    refine XS.aload X121.here hx rfl (hb hby at_167) rfl rfl ?_
    show Steps p.tables e below (T121.setTop (mkF m 169 #[.val (.long q0), .second, .val (.long q1), .second, .val (.long q2), .second, .val (.long q3), .second, .val (.long q4), .second, .val (.int p5), .val (.ref b90), .val (.ref b95), .val .null, .val (.ref b100), .val (.ref b105), .val (.ref b109), .val (.ref b_113), .val (.ref b100)] [(.ref b_113)])) _
    refine st122.trans ?_
    show Steps p.tables e below (T122.setTop (mkF m 172 #[.val (.long q0), .second, .val (.long q1), .second, .val (.long q2), .second, .val (.long q3), .second, .val (.long q4), .second, .val (.int p5), .val (.ref b90), .val (.ref b95), .val .null, .val (.ref b100), .val (.ref b105), .val (.ref b109), .val (.ref b_113), .val (.ref b100)] [(.ref b100)])) _
    refine XS.aload X122.here hx rfl (hb hby at_172) rfl rfl ?_
    show Steps p.tables e below (T122.setTop (mkF m 174 #[.val (.long q0), .second, .val (.long q1), .second, .val (.long q2), .second, .val (.long q3), .second, .val (.long q4), .second, .val (.int p5), .val (.ref b90), .val (.ref b95), .val .null, .val (.ref b100), .val (.ref b105), .val (.ref b109), .val (.ref b_113), .val (.ref b100)] [(.ref b100), (.ref b100)])) _
    refine Jvm.RoadKit.acmp (g := (mkF m 174 #[.val (.long q0), .second, .val (.long q1), .second, .val (.long q2), .second, .val (.long q3), .second, .val (.long q4), .second, .val (.int p5), .val (.ref b90), .val (.ref b95), .val .null, .val (.ref b100), .val (.ref b105), .val (.ref b109), .val (.ref b_113), .val (.ref b100)] [(.ref b100), (.ref b100)])) X122 hx rfl rfl rfl (pc0 := 174) (pc' := 177) (same := true) rfl (hb hby at_174) rfl (decide_eq_true rfl) (by decide) (by decide) ?_
    show Steps p.tables e below (T122.setTop (mkF m 177 #[.val (.long q0), .second, .val (.long q1), .second, .val (.long q2), .second, .val (.long q3), .second, .val (.long q4), .second, .val (.int p5), .val (.ref b90), .val (.ref b95), .val .null, .val (.ref b100), .val (.ref b105), .val (.ref b109), .val (.ref b_113), .val (.ref b100)] [])) _
    refine XS.iconst X122.here hx rfl (hb hby at_177) ?_
    show Steps p.tables e below (T122.setTop (mkF m 178 #[.val (.long q0), .second, .val (.long q1), .second, .val (.long q2), .second, .val (.long q3), .second, .val (.long q4), .second, .val (.int p5), .val (.ref b90), .val (.ref b95), .val .null, .val (.ref b100), .val (.ref b105), .val (.ref b109), .val (.ref b_113), .val (.ref b100)] [(.int (1 : Int32))])) _
    refine XS.goto X122.here hx rfl (pc0 := 178) (pc' := 182) rfl (hb hby at_178) (by decide) (by decide) ?_
    show Steps p.tables e below (T122.setTop (mkF m 182 #[.val (.long q0), .second, .val (.long q1), .second, .val (.long q2), .second, .val (.long q3), .second, .val (.long q4), .second, .val (.int p5), .val (.ref b90), .val (.ref b95), .val .null, .val (.ref b100), .val (.ref b105), .val (.ref b109), .val (.ref b_113), .val (.ref b100)] [(.int (1 : Int32))])) _
    exact retN X122 hx (t := .boolean) Bd.returns (by simp) (hb hby at_182) hr
  · show Q0 Z G1 q0 q1 q2 q3 q4 p5 h0 n0 _ T122.heap _
    rw [eq122]
    exact ⟨rfl, N122, K0_119⟩
set_option maxRecDepth 65536 in
set_option maxHeartbeats 40000000 in
theorem rm0_ft (l : Launch) (Z : State) (a0 : Array Value) (G1 : Int32) (hG : Glob Z a0 G1) (ws : List Jvm.Cond) (q0 : Int64) (q1 : Int64) (q2 : Int64) (q3 : Int64) (q4 : Int64) (p5 : Int32) (h0 : Heap) (n0 : Nat) (Z0 : n0 ≤ h0.size) (X00 : Old Z n0 h0) (hc40 : ¬ ((p5 &&& (1 : Int32)) = (0 : Int32))) (hc62 : (p5 &&& (2 : Int32)) = (0 : Int32)) :
    MetFree l x (head1 (Jvm.Cond.code x code maxLocals ret :: ws) room_1) (fun a U => a = #[(.long q0), (.long q1), (.long q2), (.long q3), (.long q4), (.int p5)] ∧ Z.Warmed39 U.vm ∧ U.heap = h0) (fun _ _ _ _ _ => True) (fun _ U o U' => ∃ v L, o = .returned v ∧ Q0 Z G1 q0 q1 q2 q3 q4 p5 h0 n0 v U'.heap L ∧ FrameEnd U o U' L room_1.cells room_1.slots) := by
  obtain ⟨hw, O_cs, P_cs⟩ := id hG
  have W : ∀ (i : Nat) {d : Jvm.Cond}, tables_1[i]? = some d → d.before a0 Z = true := fun i d h => hw d (List.mem_of_getElem? h)
  refine MetFree.of_bodySF (plainFor_of_name pn_com_example_armor_for_retries_armorforretries_bench_TallyPlusPinLaw) hisR ?_
  intro p e s m args below meth c s₁ Bd hml0 hP hK
  obtain ⟨rfl, hZ, hh⟩ := hP
  have hx := Bd.exec
  have hby := Bd.bytes
  have hml : c.maxLocals = 19 := hml0
  have hown : s.vm.findClass "com/example/armor_for_retries/armorforretries/bench/TallyPlusPinLaw" = some m.cls := findClass_of_methodNamed Bd.named
  have hnm := (name_of_methodNamed Bd.named Bd.method).1
  have X0 : Stand p l e room_1 s m #[(.long q0), (.long q1), (.long q2), (.long q3), (.long q4), (.int p5)] below meth c s₁ [] 0 0 := Stand.of_body Bd
  have e0 : s₁.heap = h0 := by rw [← hh, Bd.state]; rfl
  have N0 := Fr.nil n0
  have pre0 : ∀ t, Steps p.tables e below (s₁.setTop (mkF m 0 #[.val (.long q0), .second, .val (.long q1), .second, .val (.long q2), .second, .val (.long q3), .second, .val (.long q4), .second, .val (.int p5), .unset, .unset, .unset, .unset, .unset, .unset, .unset, .unset] [])) t → Steps p.tables e below (s₁.setTop (entryFrame m #[(.long q0), (.long q1), (.long q2), (.long q3), (.long q4), (.int p5)] maxLocals)) t := fun t k => castTop (ef_code_JJJJJI m q0 q1 q2 q3 q4 p5) k
  obtain ⟨T123, h123, k123, X123, e123, E123, A123, st123⟩ := newP X0 hx hZ (W 0 rfl) e0 (g := (mkF m 1 #[.val (.long q0), .second, .val (.long q1), .second, .val (.long q2), .second, .val (.long q3), .second, .val (.long q4), .second, .val (.int p5), .unset, .unset, .unset, .unset, .unset, .unset, .unset, .unset] [(.int (1 : Int32))])) rfl (hb hby at_1) rfl (by decide) (cap := 1) (by decide) (by decide) (by decide) (by decide)
  obtain ⟨b123, g123⟩ : ∃ z, z = h0.size := ⟨_, rfl⟩
  rw [← g123] at A123 st123
  have Z124 : n0 ≤ h123.size := Nat.le_trans Z0 E123.1
  have K0_124 : Keep h0 h123 [] := (Keep.refl h0 []).ext E123
  have O124 : Old Z n0 h123 := X00.ext E123
  have lo_b123 : h0.size ≤ b123 := Nat.le_of_eq g123.symm
  have g_b123 : n0 ≤ b123 := Nat.le_trans Z0 lo_b123
  have l0_b123 : h0.size ≤ b123 := Nat.le_trans (Keep.refl h0 []).1 lo_b123
  have V_b123 : Arv Z h123 b123 k123 .char (1 : Int32) [(.int (0 : Int32))] (.int (0 : Int32)) := (Arv.new A123 (by decide)).pad (pad_rep [] (.int (0 : Int32)) 1)
  obtain ⟨clq125, Arq125, qaq125, Sq125, Nq125, Hq125, Gq125⟩ := id V_b123
  have hinq125 : ¬ ((0 : Int32) < 0 ∨ clq125.slots.size ≤ ((0 : Int32)).toNatClampNeg) := inb_of Sq125 ⟨by decide, by decide⟩
  obtain ⟨T126, h126, X126, e126, W126, st126⟩ := stC X123 hx hZ e123 Arq125 (j := (0 : Int32)) hinq125 (g := (mkF m 15 #[.val (.long q0), .second, .val (.long q1), .second, .val (.long q2), .second, .val (.long q3), .second, .val (.long q4), .second, .val (.int p5), .unset, .unset, .unset, .unset, .unset, .unset, .unset, .unset] [(.int ((((p5.toUInt32 >>> ((8 : Int32) &&& 31).toUInt32).toInt32) &&& (255 : Int32)).toUInt32.toUInt16.toUInt32.toInt32)), (.int (0 : Int32)), (.ref b123), (.ref b123)])) rfl rfl (hb hby at_15)
  have V126 : Arv Z h126 b123 k123 .char (1 : Int32) [(.int (nar .char ((((p5.toUInt32 >>> ((8 : Int32) &&& 31).toUInt32).toInt32) &&& (255 : Int32)).toUInt32.toUInt16.toUInt32.toInt32)))] (.int (0 : Int32)) := Arv.set Arq125 qaq125 Sq125 Nq125 Hq125 Gq125 (fits_nar_char _) W126 0 rfl (Nat.le_of_ble_eq_true rfl)
  have Z127 : n0 ≤ h126.size := Nat.le_trans Z124 (Keep.of_wr W126).1
  have K0_127 : Keep h0 h126 [] := K0_124.wr W126 (Or.inr l0_b123)
  have O127 : Old Z n0 h126 := O124.wr W126 g_b123
  have N126 := Fr.snoc X126 N0 g_b123
  obtain ⟨T128, h128, k128, X128, e128, E128, A128, st128⟩ := newP X126 hx hZ (W 0 rfl) e126 (g := (mkF m 19 #[.val (.long q0), .second, .val (.long q1), .second, .val (.long q2), .second, .val (.long q3), .second, .val (.long q4), .second, .val (.int p5), .val (.ref b123), .unset, .unset, .unset, .unset, .unset, .unset, .unset] [(.int (1 : Int32))])) rfl (hb hby at_19) rfl (by decide) (cap := 1) (by decide) (by decide) (by decide) (by decide)
  obtain ⟨b128, g128⟩ : ∃ z, z = h126.size := ⟨_, rfl⟩
  rw [← g128] at A128 st128
  have Z129 : n0 ≤ h128.size := Nat.le_trans Z127 E128.1
  have K0_129 : Keep h0 h128 [] := K0_127.ext E128
  have O129 : Old Z n0 h128 := O127.ext E128
  have lo_b128 : h126.size ≤ b128 := Nat.le_of_eq g128.symm
  have g_b128 : n0 ≤ b128 := Nat.le_trans Z127 lo_b128
  have l0_b128 : h0.size ≤ b128 := Nat.le_trans K0_127.1 lo_b128
  have V_b128 : Arv Z h128 b128 k128 .char (1 : Int32) [(.int (0 : Int32))] (.int (0 : Int32)) := (Arv.new A128 (by decide)).pad (pad_rep [] (.int (0 : Int32)) 1)
  obtain ⟨clq130, Arq130, qaq130, Sq130, Nq130, Hq130, Gq130⟩ := id V_b128
  have hinq130 : ¬ ((0 : Int32) < 0 ∨ clq130.slots.size ≤ ((0 : Int32)).toNatClampNeg) := inb_of Sq130 ⟨by decide, by decide⟩
  obtain ⟨T131, h131, X131, e131, W131, st131⟩ := stC X128 hx hZ e128 Arq130 (j := (0 : Int32)) hinq130 (g := (mkF m 33 #[.val (.long q0), .second, .val (.long q1), .second, .val (.long q2), .second, .val (.long q3), .second, .val (.long q4), .second, .val (.int p5), .val (.ref b123), .unset, .unset, .unset, .unset, .unset, .unset, .unset] [(.int ((((p5.toUInt32 >>> ((16 : Int32) &&& 31).toUInt32).toInt32) &&& (255 : Int32)).toUInt32.toUInt16.toUInt32.toInt32)), (.int (0 : Int32)), (.ref b128), (.ref b128)])) rfl rfl (hb hby at_33)
  have V131 : Arv Z h131 b128 k128 .char (1 : Int32) [(.int (nar .char ((((p5.toUInt32 >>> ((16 : Int32) &&& 31).toUInt32).toInt32) &&& (255 : Int32)).toUInt32.toUInt16.toUInt32.toInt32)))] (.int (0 : Int32)) := Arv.set Arq130 qaq130 Sq130 Nq130 Hq130 Gq130 (fits_nar_char _) W131 0 rfl (Nat.le_of_ble_eq_true rfl)
  have Z132 : n0 ≤ h131.size := Nat.le_trans Z129 (Keep.of_wr W131).1
  have K0_132 : Keep h0 h131 [] := K0_129.wr W131 (Or.inr l0_b128)
  have O132 : Old Z n0 h131 := O129.wr W131 g_b128
  have N131 := Fr.snoc X131 N126 g_b128
  obtain ⟨T133, h133, X133, e133, E133, A133, D133, -, st133⟩ := newO X131 hx hZ hown (W 1 rfl) (W 2 rfl) (W 3 rfl) e131 (g := (mkF m 43 #[.val (.long q0), .second, .val (.long q1), .second, .val (.long q2), .second, .val (.long q3), .second, .val (.long q4), .second, .val (.int p5), .val (.ref b123), .val (.ref b128), .unset, .unset, .unset, .unset, .unset, .unset] [])) rfl (hb hby at_43) (by decide) (by decide)
  obtain ⟨b133, g133⟩ : ∃ z, z = h131.size := ⟨_, rfl⟩
  rw [← g133] at A133 D133 st133
  have Z134 : n0 ≤ h133.size := Nat.le_trans Z132 E133.1
  have K0_134 : Keep h0 h133 [] := K0_132.ext E133
  have O134 : Old Z n0 h133 := O132.ext E133
  have lo_b133 : h131.size ≤ b133 := Nat.le_of_eq g133.symm
  have g_b133 : n0 ≤ b133 := Nat.le_trans Z132 lo_b133
  have l0_b133 : h0.size ≤ b133 := Nat.le_trans K0_132.1 lo_b133
  have F_coder_b133 : Fld Z h133 b133 "java/lang/String" "coder" "B" (.int (0 : Int32)) := D133 (Or.inr (W 27 rfl)) (ty := .byte) (by decide)
  have F_value_b133 : Fld Z h133 b133 "java/lang/String" "value" "[B" .null := D133 (Or.inr (W 29 rfl)) (ty := (.array .byte)) (by decide)
  have hws135 := own_hws hw
  have hp135 : ∀ c ∈ ([(nar .char ((((p5.toUInt32 >>> ((8 : Int32) &&& 31).toUInt32).toInt32) &&& (255 : Int32)).toUInt32.toUInt16.toUInt32.toInt32))] : List Int32), ¬ c < 0 ∧ ¬ (255 : Int32) < c := by
    intro c hc
    simp only [List.mem_cons, List.not_mem_nil, or_false] at hc
    rcases hc with rfl <;> exact own_char255 _
  have f136 := (((V126.ext E128).other W131 (Nat.ne_of_lt (Nat.lt_of_lt_of_le V126.lt lo_b128))).ext E133)
  -- pc 49: java/lang/String.<init>
  obtain ⟨_, _, ⟨T135, L135, k135, n135⟩, -, X135, ⟨Lc135, hQ135, l135, y135, z135⟩, st135⟩ := X133.specialBack hx (y := y5) rfl hown (mvT hZ (W 4 rfl)) (mvT hZ (W 5 rfl)) (mvT hZ (W 6 rfl)) (by decide) (StrChars.Road.backV (W := 1) hZ hws135 (kI := 4) (W 2 rfl) (cs := ([(nar .char ((((p5.toUInt32 >>> ((8 : Int32) &&& 31).toUInt32).toInt32) &&& (255 : Int32)).toUInt32.toUInt16.toUInt32.toInt32))] : List Int32)) (bs := (([(nar .char ((((p5.toUInt32 >>> ((8 : Int32) &&& 31).toUInt32).toInt32) &&& (255 : Int32)).toUInt32.toUInt16.toUInt32.toInt32))] : List Int32)).map (fun c => c.toInt8.toInt32)) (n := 1) g_b133 Z134 A133 F_value_b133 F_coder_b133 f136 (O_cs.ext O134.2) P_cs rfl rfl (by decide) (by decide) hp135 rfl (by decide) (by decide)) (g := (mkF m 49 #[.val (.long q0), .second, .val (.long q1), .second, .val (.long q2), .second, .val (.long q3), .second, .val (.long q4), .second, .val (.int p5), .val (.ref b123), .val (.ref b128), .unset, .unset, .unset, .unset, .unset, .unset] [(.ref b123), (.ref b133), (.ref b133)])) rfl (by rw [hml]; rfl) (Steps.refl _) (a := b133) (argsL := [(.ref b123)]) (rest := [(.ref b133)]) (lenOf pd___C_V rfl) rfl (by show 2 * 0 + _ ≤ _; exact Nat.le_of_eq rfl) (hb hby at_49) (fun _ _ => ⟨rfl, e133, (by decide : 3 + 1 ≤ _), (by decide : 6 + 1 ≤ _)⟩)
  dsimp only [Pt.U, Pt.locs, Pt.cells, Pt.slots] at X135 l135 y135 z135 st135 hQ135
  subst l135 y135 z135
  obtain ⟨rfl, N135q, K135, E135x, C135x, t135, kb135, gt135, lt135, nt135, V135x, B135x⟩ := hQ135
  have N135 := Fr.app N131 N135q
  have Z137 : n0 ≤ T135.heap.size := Nat.le_trans Z134 K135.1
  have K0_137 : Keep h0 T135.heap [] := K0_134.trans K135 (allS (Or.inr l0_b133) all0)
  have O137 : Old Z n0 T135.heap := O134.keep K135 (allS g_b133 all0)
  have lo_t135 : h133.size ≤ t135 := lt135
  have g_t135 : n0 ≤ t135 := Nat.le_trans Z134 lo_t135
  have l0_t135 : h0.size ≤ t135 := Nat.le_trans K0_134.1 lo_t135
  obtain ⟨T138, h138, X138, e138, E138, A138, D138, -, st138⟩ := newO X135 hx hZ hown (W 30 rfl) (W 31 rfl) (W 32 rfl) rfl (g := (mkF m 80 #[.val (.long q0), .second, .val (.long q1), .second, .val (.long q2), .second, .val (.long q3), .second, .val (.long q4), .second, .val (.int p5), .val (.ref b123), .val (.ref b128), .val (.ref b133), .val .null, .unset, .unset, .unset, .unset] [])) rfl (hb hby at_80) (by decide) (by decide)
  obtain ⟨b138, g138⟩ : ∃ z, z = T135.heap.size := ⟨_, rfl⟩
  rw [← g138] at A138 D138 st138
  have Z139 : n0 ≤ h138.size := Nat.le_trans Z137 E138.1
  have K0_139 : Keep h0 h138 [] := K0_137.ext E138
  have O139 : Old Z n0 h138 := O137.ext E138
  have lo_b138 : T135.heap.size ≤ b138 := Nat.le_of_eq g138.symm
  have g_b138 : n0 ≤ b138 := Nat.le_trans Z137 lo_b138
  have l0_b138 : h0.size ≤ b138 := Nat.le_trans K0_137.1 lo_b138
  have F_created_b138 : Fld Z h138 b138 "com/example/armor_for_retries/armorforretries/bench/Tally" "created" "J" (.long (0 : Int64)) := D138 (Or.inr (W 38 rfl)) (ty := .long) (by decide)
  have F_windowed_b138 : Fld Z h138 b138 "com/example/armor_for_retries/armorforretries/bench/Tally" "windowed" "J" (.long (0 : Int64)) := D138 (Or.inr (W 40 rfl)) (ty := .long) (by decide)
  have F_errors_b138 : Fld Z h138 b138 "com/example/armor_for_retries/armorforretries/bench/Tally" "errors" "J" (.long (0 : Int64)) := D138 (Or.inr (W 42 rfl)) (ty := .long) (by decide)
  have F_firstError_b138 : Fld Z h138 b138 "com/example/armor_for_retries/armorforretries/bench/Tally" "firstError" "Ljava/lang/String;" .null := D138 (Or.inr (W 44 rfl)) (ty := (.object "java/lang/String")) (by decide)
  -- pc 91: com/example/armor_for_retries/armorforretries/bench/Tally.<init>
  obtain ⟨_, _, ⟨T140, L140, k140, n140⟩, -, X140, ⟨Lc140, hQ140, l140, y140, z140⟩, st140⟩ := X138.specialBack hx (y := y0) rfl hown (mvT hZ (W 33 rfl)) (mvT hZ (W 34 rfl)) (mvT hZ (W 35 rfl)) (by decide) (backOf (W := 1) (rmTI l Z a0 G1 hG [] b138 q0 q4 q2 (.ref b133) h138 n0 Z139 O139 A138 F_created_b138 F_windowed_b138 F_errors_b138 F_firstError_b138 g_b138 rfl) hZ (W 35 rfl) (W 32 rfl) (by decide) (by decide)) (g := (mkF m 91 #[.val (.long q0), .second, .val (.long q1), .second, .val (.long q2), .second, .val (.long q3), .second, .val (.long q4), .second, .val (.int p5), .val (.ref b123), .val (.ref b128), .val (.ref b133), .val .null, .unset, .unset, .unset, .unset] [(.ref b133), (.long q2), (.long q4), (.long q0), (.ref b138), (.ref b138)])) rfl (by rw [hml]; rfl) (Steps.refl _) (a := b138) (argsL := [(.long q0), (.long q4), (.long q2), (.ref b133)]) (rest := [(.ref b138)]) (lenOf pd__JJJLjava_lang_String__V rfl) rfl (by show 2 * 0 + _ ≤ _; exact Nat.le_of_eq rfl) (hb hby at_91) (fun _ _ => ⟨rfl, e138, (by decide : 5 + 0 ≤ _), (by decide : 11 + 0 ≤ _)⟩)
  dsimp only [Pt.U, Pt.locs, Pt.cells, Pt.slots] at X140 l140 y140 z140 st140 hQ140
  subst l140 y140 z140
  obtain ⟨rfl, N140q, K140, f140_0, f140_1, f140_2, f140_3, f140_4⟩ := hQ140
  have N140 := Fr.app N135 N140q
  have Z141 : n0 ≤ T140.heap.size := Nat.le_trans Z139 K140.1
  have K0_141 : Keep h0 T140.heap [] := K0_139.trans K140 (allS (Or.inr l0_b138) all0)
  have O141 : Old Z n0 T140.heap := O139.keep K140 (allS g_b138 all0)
  obtain ⟨T142, h142, X142, e142, E142, A142, D142, -, st142⟩ := newO X140 hx hZ hown (W 30 rfl) (W 31 rfl) (W 32 rfl) rfl (g := (mkF m 96 #[.val (.long q0), .second, .val (.long q1), .second, .val (.long q2), .second, .val (.long q3), .second, .val (.long q4), .second, .val (.int p5), .val (.ref b123), .val (.ref b128), .val (.ref b133), .val .null, .val (.ref b138), .unset, .unset, .unset] [])) rfl (hb hby at_96) (by decide) (by decide)
  obtain ⟨b142, g142⟩ : ∃ z, z = T140.heap.size := ⟨_, rfl⟩
  rw [← g142] at A142 D142 st142
  have Z143 : n0 ≤ h142.size := Nat.le_trans Z141 E142.1
  have K0_143 : Keep h0 h142 [] := K0_141.ext E142
  have O143 : Old Z n0 h142 := O141.ext E142
  have lo_b142 : T140.heap.size ≤ b142 := Nat.le_of_eq g142.symm
  have g_b142 : n0 ≤ b142 := Nat.le_trans Z141 lo_b142
  have l0_b142 : h0.size ≤ b142 := Nat.le_trans K0_141.1 lo_b142
  have F_created_b142 : Fld Z h142 b142 "com/example/armor_for_retries/armorforretries/bench/Tally" "created" "J" (.long (0 : Int64)) := D142 (Or.inr (W 38 rfl)) (ty := .long) (by decide)
  have F_windowed_b142 : Fld Z h142 b142 "com/example/armor_for_retries/armorforretries/bench/Tally" "windowed" "J" (.long (0 : Int64)) := D142 (Or.inr (W 40 rfl)) (ty := .long) (by decide)
  have F_errors_b142 : Fld Z h142 b142 "com/example/armor_for_retries/armorforretries/bench/Tally" "errors" "J" (.long (0 : Int64)) := D142 (Or.inr (W 42 rfl)) (ty := .long) (by decide)
  have F_firstError_b142 : Fld Z h142 b142 "com/example/armor_for_retries/armorforretries/bench/Tally" "firstError" "Ljava/lang/String;" .null := D142 (Or.inr (W 44 rfl)) (ty := (.object "java/lang/String")) (by decide)
  -- pc 111: com/example/armor_for_retries/armorforretries/bench/Tally.<init>
  obtain ⟨_, _, ⟨T144, L144, k144, n144⟩, -, X144, ⟨Lc144, hQ144, l144, y144, z144⟩, st144⟩ := X142.specialBack hx (y := y0) rfl hown (mvT hZ (W 33 rfl)) (mvT hZ (W 34 rfl)) (mvT hZ (W 35 rfl)) (by decide) (backOf (W := 1) (rmTI l Z a0 G1 hG [] b142 q1 (q4 ^^^ (-1 : Int64)) q3 .null h142 n0 Z143 O143 A142 F_created_b142 F_windowed_b142 F_errors_b142 F_firstError_b142 g_b142 rfl) hZ (W 35 rfl) (W 32 rfl) (by decide) (by decide)) (g := (mkF m 111 #[.val (.long q0), .second, .val (.long q1), .second, .val (.long q2), .second, .val (.long q3), .second, .val (.long q4), .second, .val (.int p5), .val (.ref b123), .val (.ref b128), .val (.ref b133), .val .null, .val (.ref b138), .unset, .unset, .unset] [.null, (.long q3), (.long (q4 ^^^ (-1 : Int64))), (.long q1), (.ref b142), (.ref b142)])) rfl (by rw [hml]; rfl) (Steps.refl _) (a := b142) (argsL := [(.long q1), (.long (q4 ^^^ (-1 : Int64))), (.long q3), .null]) (rest := [(.ref b142)]) (lenOf pd__JJJLjava_lang_String__V rfl) rfl (by show 2 * 0 + _ ≤ _; exact Nat.le_of_eq rfl) (hb hby at_111) (fun _ _ => ⟨rfl, e142, (by decide : 6 + 0 ≤ _), (by decide : 15 + 0 ≤ _)⟩)
  dsimp only [Pt.U, Pt.locs, Pt.cells, Pt.slots] at X144 l144 y144 z144 st144 hQ144
  subst l144 y144 z144
  obtain ⟨rfl, N144q, K144, f144_0, f144_1, f144_2, f144_3, f144_4⟩ := hQ144
  have N144 := Fr.app N140 N144q
  have Z145 : n0 ≤ T144.heap.size := Nat.le_trans Z143 K144.1
  have K0_145 : Keep h0 T144.heap [] := K0_143.trans K144 (allS (Or.inr l0_b142) all0)
  have O145 : Old Z n0 T144.heap := O143.keep K144 (allS g_b142 all0)
  have f147 := ((f140_0.ext E142).keep K144)
  have f148 := ((f140_1.ext E142).keep K144 (ninS (Nat.ne_of_lt (Nat.lt_of_lt_of_le f140_0.lt lo_b142)) nin0))
  have f149 := ((f140_2.ext E142).keep K144 (ninS (Nat.ne_of_lt (Nat.lt_of_lt_of_le f140_0.lt lo_b142)) nin0))
  have f150 := ((f140_3.ext E142).keep K144 (ninS (Nat.ne_of_lt (Nat.lt_of_lt_of_le f140_0.lt lo_b142)) nin0))
  have f151 := ((f140_4.ext E142).keep K144 (ninS (Nat.ne_of_lt (Nat.lt_of_lt_of_le f140_0.lt lo_b142)) nin0))
  obtain ⟨cq146, kq146, q146a, q146b, q146c⟩ := isOf hZ rfl f147
  -- pc 120: com/example/armor_for_retries/armorforretries/bench/Tally.plus
  obtain ⟨_, _, ⟨T146, L146, k146, n146⟩, -, X146, ⟨Lc146, hQ146, l146, y146, z146⟩, st146⟩ := X144.virtualBack hx (y := y4) (z := y4) hown (mvT hZ (W 46 rfl)) (mvT hZ (W 47 rfl)) (notFace_of_selects (args := #[]) (mvT hZ (W 49 rfl))) (mvT hZ (W 49 rfl)) (mvT hZ (W 48 rfl)) (by decide) (backOf (W := 0) (rmplusR l Z a0 G1 hG [] b138 b142 q0 q4 q2 q1 (q4 ^^^ (-1 : Int64)) q3 b133 .null T144.heap n0 Z145 O145 f147 f148 f149 f150 f151 f144_0 f144_1 f144_2 f144_3 f144_4 rfl) hZ (W 50 rfl) (W 32 rfl) (by decide) (by decide)) q146a q146c (g := (mkF m 120 #[.val (.long q0), .second, .val (.long q1), .second, .val (.long q2), .second, .val (.long q3), .second, .val (.long q4), .second, .val (.int p5), .val (.ref b123), .val (.ref b128), .val (.ref b133), .val .null, .val (.ref b138), .val (.ref b142), .unset, .unset] [(.ref b142), (.ref b138)])) rfl (by rw [hml]; rfl) (Steps.refl _) (argsL := [(.ref b142)]) (rest := []) (lenOf pd__Lcom_example_armor_for_retries_armorforretries_bench_Tally__Lcom_example_armor_for_retries_armorforretries_bench_Tally_ rfl) rfl (by show 2 * 0 + _ ≤ _; exact Nat.le_of_eq rfl) (hb hby at_120) (fun _ _ => ⟨rfl, rfl, (by decide : 6 + 1 ≤ _), (by decide : 15 + 4 ≤ _)⟩)
  dsimp only [Pt.U, Pt.locs, Pt.cells, Pt.slots] at X146 l146 y146 z146 st146 hQ146
  subst l146 y146 z146
  obtain ⟨b_146, rfl, N146q, K146, f146_0, f146_1, f146_2, f146_3, f146_4⟩ := hQ146
  have N146 := Fr.app N144 N146q
  have Z152 : n0 ≤ T146.heap.size := Nat.le_trans Z145 K146.1
  have K0_152 : Keep h0 T146.heap [] := K0_145.trans K146 all0
  have O152 : Old Z n0 T146.heap := O145.keep K146 all0
  have lo_b_146 : T144.heap.size ≤ b_146 := f146_0
  have g_b_146 : n0 ≤ b_146 := Nat.le_trans Z145 lo_b_146
  have l0_b_146 : h0.size ≤ b_146 := Nat.le_trans K0_145.1 lo_b_146
  obtain ⟨cq153, kq153, q153a, q153b, q153c⟩ := isOf hZ rfl f146_1
  -- pc 143: com/example/armor_for_retries/armorforretries/bench/Tally.created
  obtain ⟨_, _, ⟨T153, L153, k153, n153⟩, -, X153, ⟨Lc153, hQ153, l153, y153, z153⟩, st153⟩ := X146.virtualBack hx (y := y1) (z := y1) hown (mvT hZ (W 53 rfl)) (mvT hZ (W 54 rfl)) (notFace_of_selects (args := #[]) (mvT hZ (W 56 rfl))) (mvT hZ (W 56 rfl)) (mvT hZ (W 55 rfl)) (by decide) (backOf (W := 0) (rmG_created l Z a0 G1 hG [] b_146 (q0 + q1) T146.heap n0 Z152 O152 f146_2) hZ (W 57 rfl) (W 32 rfl) (by decide) (by decide)) q153a q153c (g := (mkF m 143 #[.val (.long q0), .second, .val (.long q1), .second, .val (.long q2), .second, .val (.long q3), .second, .val (.long q4), .second, .val (.int p5), .val (.ref b123), .val (.ref b128), .val (.ref b133), .val .null, .val (.ref b138), .val (.ref b142), .val (.ref b_146), .val (.ref b133)] [(.ref b_146)])) rfl (by rw [hml]; rfl) (Steps.refl _) (argsL := []) (rest := []) (lenOf pd___J rfl) rfl (by show 2 * 0 + _ ≤ _; exact Nat.le_of_eq rfl) (hb hby at_143) (fun _ _ => ⟨rfl, rfl, (by decide : 7 + 0 ≤ _), (by decide : 19 + 0 ≤ _)⟩)
  dsimp only [Pt.U, Pt.locs, Pt.cells, Pt.slots] at X153 l153 y153 z153 st153 hQ153
  subst l153 y153 z153
  obtain ⟨rfl, N153q, eq153⟩ := hQ153
  have N153 := Fr.app N146 N153q
  obtain ⟨cq154, kq154, q154a, q154b, q154c⟩ := isOf hZ eq153 f146_1
  -- pc 155: com/example/armor_for_retries/armorforretries/bench/Tally.errors
  obtain ⟨_, _, ⟨T154, L154, k154, n154⟩, -, X154, ⟨Lc154, hQ154, l154, y154, z154⟩, st154⟩ := X153.virtualBack hx (y := y2) (z := y2) hown (mvT hZ (W 58 rfl)) (mvT hZ (W 59 rfl)) (notFace_of_selects (args := #[]) (mvT hZ (W 61 rfl))) (mvT hZ (W 61 rfl)) (mvT hZ (W 60 rfl)) (by decide) (backOf (W := 0) (rmG_errors l Z a0 G1 hG [] b_146 (q2 + q3) T146.heap n0 Z152 O152 f146_3) hZ (W 62 rfl) (W 32 rfl) (by decide) (by decide)) q154a q154c (g := (mkF m 155 #[.val (.long q0), .second, .val (.long q1), .second, .val (.long q2), .second, .val (.long q3), .second, .val (.long q4), .second, .val (.int p5), .val (.ref b123), .val (.ref b128), .val (.ref b133), .val .null, .val (.ref b138), .val (.ref b142), .val (.ref b_146), .val (.ref b133)] [(.ref b_146)])) rfl (by rw [hml]; rfl) (Steps.refl _) (argsL := []) (rest := []) (lenOf pd___J rfl) rfl (by show 2 * 0 + _ ≤ _; exact Nat.le_of_eq rfl) (hb hby at_155) (fun _ _ => ⟨rfl, eq153, (by decide : 7 + 0 ≤ _), (by decide : 19 + 0 ≤ _)⟩)
  dsimp only [Pt.U, Pt.locs, Pt.cells, Pt.slots] at X154 l154 y154 z154 st154 hQ154
  subst l154 y154 z154
  obtain ⟨rfl, N154q, eq154⟩ := hQ154
  have N154 := Fr.app N153 N154q
  obtain ⟨cq155, kq155, q155a, q155b, q155c⟩ := isOf hZ eq154 f146_1
  -- pc 169: com/example/armor_for_retries/armorforretries/bench/Tally.firstError
  obtain ⟨_, _, ⟨T155, L155, k155, n155⟩, -, X155, ⟨Lc155, hQ155, l155, y155, z155⟩, st155⟩ := X154.virtualBack hx (y := y3) (z := y3) hown (mvT hZ (W 63 rfl)) (mvT hZ (W 64 rfl)) (notFace_of_selects (args := #[]) (mvT hZ (W 66 rfl))) (mvT hZ (W 66 rfl)) (mvT hZ (W 65 rfl)) (by decide) (backOf (W := 0) (rmG_firstError l Z a0 G1 hG [] b_146 (.ref b133) T146.heap n0 Z152 O152 f146_4 rfl) hZ (W 67 rfl) (W 32 rfl) (by decide) (by decide)) q155a q155c (g := (mkF m 169 #[.val (.long q0), .second, .val (.long q1), .second, .val (.long q2), .second, .val (.long q3), .second, .val (.long q4), .second, .val (.int p5), .val (.ref b123), .val (.ref b128), .val (.ref b133), .val .null, .val (.ref b138), .val (.ref b142), .val (.ref b_146), .val (.ref b133)] [(.ref b_146)])) rfl (by rw [hml]; rfl) (Steps.refl _) (argsL := []) (rest := []) (lenOf pd___Ljava_lang_String_ rfl) rfl (by show 2 * 0 + _ ≤ _; exact Nat.le_of_eq rfl) (hb hby at_169) (fun _ _ => ⟨rfl, eq154, (by decide : 7 + 0 ≤ _), (by decide : 19 + 0 ≤ _)⟩)
  dsimp only [Pt.U, Pt.locs, Pt.cells, Pt.slots] at X155 l155 y155 z155 st155 hQ155
  subst l155 y155 z155
  obtain ⟨rfl, N155q, eq155⟩ := hQ155
  have N155 := Fr.app N154 N155q
  obtain ⟨fs, hr, hrun, hended, hW, hsame⟩ := X155.leave (v := some (.int (1 : Int32))) (fun h => by rw [Bd.returns] at h; cases h)
  refine ⟨_, _, pre0 _ ?_, hrun, hended, _, _, rfl, ?_, ⟨_, rfl⟩, hW, hsame.mono (Nat.le_of_ble_eq_true rfl) (Nat.le_of_ble_eq_true rfl)⟩
  · show Steps p.tables e below (s₁.setTop (mkF m 0 #[.val (.long q0), .second, .val (.long q1), .second, .val (.long q2), .second, .val (.long q3), .second, .val (.long q4), .second, .val (.int p5), .unset, .unset, .unset, .unset, .unset, .unset, .unset, .unset] [])) _
    refine XS.iconst X0.here hx rfl (hb hby at_0) ?_
    show Steps p.tables e below (s₁.setTop (mkF m 1 #[.val (.long q0), .second, .val (.long q1), .second, .val (.long q2), .second, .val (.long q3), .second, .val (.long q4), .second, .val (.int p5), .unset, .unset, .unset, .unset, .unset, .unset, .unset, .unset] [(.int (1 : Int32))])) _
    refine st123 _ ?_
    show Steps p.tables e below (T123.setTop (mkF m 3 #[.val (.long q0), .second, .val (.long q1), .second, .val (.long q2), .second, .val (.long q3), .second, .val (.long q4), .second, .val (.int p5), .unset, .unset, .unset, .unset, .unset, .unset, .unset, .unset] [(.ref b123)])) _
    refine XS.dup X123.here hx rfl (hb hby at_3) rfl rfl ?_
    show Steps p.tables e below (T123.setTop (mkF m 4 #[.val (.long q0), .second, .val (.long q1), .second, .val (.long q2), .second, .val (.long q3), .second, .val (.long q4), .second, .val (.int p5), .unset, .unset, .unset, .unset, .unset, .unset, .unset, .unset] [(.ref b123), (.ref b123)])) _
    refine XS.iconst X123.here hx rfl (hb hby at_4) ?_
    show Steps p.tables e below (T123.setTop (mkF m 5 #[.val (.long q0), .second, .val (.long q1), .second, .val (.long q2), .second, .val (.long q3), .second, .val (.long q4), .second, .val (.int p5), .unset, .unset, .unset, .unset, .unset, .unset, .unset, .unset] [(.int (0 : Int32)), (.ref b123), (.ref b123)])) _
    refine XS.iload X123.here hx rfl (hb hby at_5) rfl ?_
    show Steps p.tables e below (T123.setTop (mkF m 7 #[.val (.long q0), .second, .val (.long q1), .second, .val (.long q2), .second, .val (.long q3), .second, .val (.long q4), .second, .val (.int p5), .unset, .unset, .unset, .unset, .unset, .unset, .unset, .unset] [(.int p5), (.int (0 : Int32)), (.ref b123), (.ref b123)])) _
    refine XS.bipush X123.here hx rfl (hb hby at_7) ?_
    show Steps p.tables e below (T123.setTop (mkF m 9 #[.val (.long q0), .second, .val (.long q1), .second, .val (.long q2), .second, .val (.long q3), .second, .val (.long q4), .second, .val (.int p5), .unset, .unset, .unset, .unset, .unset, .unset, .unset, .unset] [(.int (8 : Int32)), (.int p5), (.int (0 : Int32)), (.ref b123), (.ref b123)])) _
    refine XS.iushr X123.here hx rfl (hb hby at_9) rfl ?_
    show Steps p.tables e below (T123.setTop (mkF m 10 #[.val (.long q0), .second, .val (.long q1), .second, .val (.long q2), .second, .val (.long q3), .second, .val (.long q4), .second, .val (.int p5), .unset, .unset, .unset, .unset, .unset, .unset, .unset, .unset] [(.int ((p5.toUInt32 >>> ((8 : Int32) &&& 31).toUInt32).toInt32)), (.int (0 : Int32)), (.ref b123), (.ref b123)])) _
    refine XS.sipush X123.here hx rfl (hb hby at_10) ?_
    show Steps p.tables e below (T123.setTop (mkF m 13 #[.val (.long q0), .second, .val (.long q1), .second, .val (.long q2), .second, .val (.long q3), .second, .val (.long q4), .second, .val (.int p5), .unset, .unset, .unset, .unset, .unset, .unset, .unset, .unset] [(.int (255 : Int32)), (.int ((p5.toUInt32 >>> ((8 : Int32) &&& 31).toUInt32).toInt32)), (.int (0 : Int32)), (.ref b123), (.ref b123)])) _
    refine XS.iand X123.here hx rfl (hb hby at_13) rfl ?_
    show Steps p.tables e below (T123.setTop (mkF m 14 #[.val (.long q0), .second, .val (.long q1), .second, .val (.long q2), .second, .val (.long q3), .second, .val (.long q4), .second, .val (.int p5), .unset, .unset, .unset, .unset, .unset, .unset, .unset, .unset] [(.int (((p5.toUInt32 >>> ((8 : Int32) &&& 31).toUInt32).toInt32) &&& (255 : Int32))), (.int (0 : Int32)), (.ref b123), (.ref b123)])) _
    refine XS.i2c X123.here hx rfl (hb hby at_14) rfl ?_
    show Steps p.tables e below (T123.setTop (mkF m 15 #[.val (.long q0), .second, .val (.long q1), .second, .val (.long q2), .second, .val (.long q3), .second, .val (.long q4), .second, .val (.int p5), .unset, .unset, .unset, .unset, .unset, .unset, .unset, .unset] [(.int ((((p5.toUInt32 >>> ((8 : Int32) &&& 31).toUInt32).toInt32) &&& (255 : Int32)).toUInt32.toUInt16.toUInt32.toInt32)), (.int (0 : Int32)), (.ref b123), (.ref b123)])) _
    refine st126 _ ?_
    show Steps p.tables e below (T126.setTop (mkF m 16 #[.val (.long q0), .second, .val (.long q1), .second, .val (.long q2), .second, .val (.long q3), .second, .val (.long q4), .second, .val (.int p5), .unset, .unset, .unset, .unset, .unset, .unset, .unset, .unset] [(.ref b123)])) _
    refine XS.astore X126.here hx rfl (hb hby at_16) rfl rfl (l' := #[.val (.long q0), .second, .val (.long q1), .second, .val (.long q2), .second, .val (.long q3), .second, .val (.long q4), .second, .val (.int p5), .val (.ref b123), .unset, .unset, .unset, .unset, .unset, .unset, .unset]) rfl ?_
    show Steps p.tables e below (T126.setTop (mkF m 18 #[.val (.long q0), .second, .val (.long q1), .second, .val (.long q2), .second, .val (.long q3), .second, .val (.long q4), .second, .val (.int p5), .val (.ref b123), .unset, .unset, .unset, .unset, .unset, .unset, .unset] [])) _
    refine XS.iconst X126.here hx rfl (hb hby at_18) ?_
    show Steps p.tables e below (T126.setTop (mkF m 19 #[.val (.long q0), .second, .val (.long q1), .second, .val (.long q2), .second, .val (.long q3), .second, .val (.long q4), .second, .val (.int p5), .val (.ref b123), .unset, .unset, .unset, .unset, .unset, .unset, .unset] [(.int (1 : Int32))])) _
    refine st128 _ ?_
    show Steps p.tables e below (T128.setTop (mkF m 21 #[.val (.long q0), .second, .val (.long q1), .second, .val (.long q2), .second, .val (.long q3), .second, .val (.long q4), .second, .val (.int p5), .val (.ref b123), .unset, .unset, .unset, .unset, .unset, .unset, .unset] [(.ref b128)])) _
    refine XS.dup X128.here hx rfl (hb hby at_21) rfl rfl ?_
    show Steps p.tables e below (T128.setTop (mkF m 22 #[.val (.long q0), .second, .val (.long q1), .second, .val (.long q2), .second, .val (.long q3), .second, .val (.long q4), .second, .val (.int p5), .val (.ref b123), .unset, .unset, .unset, .unset, .unset, .unset, .unset] [(.ref b128), (.ref b128)])) _
    refine XS.iconst X128.here hx rfl (hb hby at_22) ?_
    show Steps p.tables e below (T128.setTop (mkF m 23 #[.val (.long q0), .second, .val (.long q1), .second, .val (.long q2), .second, .val (.long q3), .second, .val (.long q4), .second, .val (.int p5), .val (.ref b123), .unset, .unset, .unset, .unset, .unset, .unset, .unset] [(.int (0 : Int32)), (.ref b128), (.ref b128)])) _
    refine XS.iload X128.here hx rfl (hb hby at_23) rfl ?_
    show Steps p.tables e below (T128.setTop (mkF m 25 #[.val (.long q0), .second, .val (.long q1), .second, .val (.long q2), .second, .val (.long q3), .second, .val (.long q4), .second, .val (.int p5), .val (.ref b123), .unset, .unset, .unset, .unset, .unset, .unset, .unset] [(.int p5), (.int (0 : Int32)), (.ref b128), (.ref b128)])) _
    refine XS.bipush X128.here hx rfl (hb hby at_25) ?_
    show Steps p.tables e below (T128.setTop (mkF m 27 #[.val (.long q0), .second, .val (.long q1), .second, .val (.long q2), .second, .val (.long q3), .second, .val (.long q4), .second, .val (.int p5), .val (.ref b123), .unset, .unset, .unset, .unset, .unset, .unset, .unset] [(.int (16 : Int32)), (.int p5), (.int (0 : Int32)), (.ref b128), (.ref b128)])) _
    refine XS.iushr X128.here hx rfl (hb hby at_27) rfl ?_
    show Steps p.tables e below (T128.setTop (mkF m 28 #[.val (.long q0), .second, .val (.long q1), .second, .val (.long q2), .second, .val (.long q3), .second, .val (.long q4), .second, .val (.int p5), .val (.ref b123), .unset, .unset, .unset, .unset, .unset, .unset, .unset] [(.int ((p5.toUInt32 >>> ((16 : Int32) &&& 31).toUInt32).toInt32)), (.int (0 : Int32)), (.ref b128), (.ref b128)])) _
    refine XS.sipush X128.here hx rfl (hb hby at_28) ?_
    show Steps p.tables e below (T128.setTop (mkF m 31 #[.val (.long q0), .second, .val (.long q1), .second, .val (.long q2), .second, .val (.long q3), .second, .val (.long q4), .second, .val (.int p5), .val (.ref b123), .unset, .unset, .unset, .unset, .unset, .unset, .unset] [(.int (255 : Int32)), (.int ((p5.toUInt32 >>> ((16 : Int32) &&& 31).toUInt32).toInt32)), (.int (0 : Int32)), (.ref b128), (.ref b128)])) _
    refine XS.iand X128.here hx rfl (hb hby at_31) rfl ?_
    show Steps p.tables e below (T128.setTop (mkF m 32 #[.val (.long q0), .second, .val (.long q1), .second, .val (.long q2), .second, .val (.long q3), .second, .val (.long q4), .second, .val (.int p5), .val (.ref b123), .unset, .unset, .unset, .unset, .unset, .unset, .unset] [(.int (((p5.toUInt32 >>> ((16 : Int32) &&& 31).toUInt32).toInt32) &&& (255 : Int32))), (.int (0 : Int32)), (.ref b128), (.ref b128)])) _
    refine XS.i2c X128.here hx rfl (hb hby at_32) rfl ?_
    show Steps p.tables e below (T128.setTop (mkF m 33 #[.val (.long q0), .second, .val (.long q1), .second, .val (.long q2), .second, .val (.long q3), .second, .val (.long q4), .second, .val (.int p5), .val (.ref b123), .unset, .unset, .unset, .unset, .unset, .unset, .unset] [(.int ((((p5.toUInt32 >>> ((16 : Int32) &&& 31).toUInt32).toInt32) &&& (255 : Int32)).toUInt32.toUInt16.toUInt32.toInt32)), (.int (0 : Int32)), (.ref b128), (.ref b128)])) _
    refine st131 _ ?_
    show Steps p.tables e below (T131.setTop (mkF m 34 #[.val (.long q0), .second, .val (.long q1), .second, .val (.long q2), .second, .val (.long q3), .second, .val (.long q4), .second, .val (.int p5), .val (.ref b123), .unset, .unset, .unset, .unset, .unset, .unset, .unset] [(.ref b128)])) _
    refine XS.astore X131.here hx rfl (hb hby at_34) rfl rfl (l' := #[.val (.long q0), .second, .val (.long q1), .second, .val (.long q2), .second, .val (.long q3), .second, .val (.long q4), .second, .val (.int p5), .val (.ref b123), .val (.ref b128), .unset, .unset, .unset, .unset, .unset, .unset]) rfl ?_
    show Steps p.tables e below (T131.setTop (mkF m 36 #[.val (.long q0), .second, .val (.long q1), .second, .val (.long q2), .second, .val (.long q3), .second, .val (.long q4), .second, .val (.int p5), .val (.ref b123), .val (.ref b128), .unset, .unset, .unset, .unset, .unset, .unset] [])) _
    refine XS.iload X131.here hx rfl (hb hby at_36) rfl ?_
    show Steps p.tables e below (T131.setTop (mkF m 38 #[.val (.long q0), .second, .val (.long q1), .second, .val (.long q2), .second, .val (.long q3), .second, .val (.long q4), .second, .val (.int p5), .val (.ref b123), .val (.ref b128), .unset, .unset, .unset, .unset, .unset, .unset] [(.int p5)])) _
    refine XS.iconst X131.here hx rfl (hb hby at_38) ?_
    show Steps p.tables e below (T131.setTop (mkF m 39 #[.val (.long q0), .second, .val (.long q1), .second, .val (.long q2), .second, .val (.long q3), .second, .val (.long q4), .second, .val (.int p5), .val (.ref b123), .val (.ref b128), .unset, .unset, .unset, .unset, .unset, .unset] [(.int (1 : Int32)), (.int p5)])) _
    refine XS.iand X131.here hx rfl (hb hby at_39) rfl ?_
    show Steps p.tables e below (T131.setTop (mkF m 40 #[.val (.long q0), .second, .val (.long q1), .second, .val (.long q2), .second, .val (.long q3), .second, .val (.long q4), .second, .val (.int p5), .val (.ref b123), .val (.ref b128), .unset, .unset, .unset, .unset, .unset, .unset] [(.int (p5 &&& (1 : Int32)))])) _
    refine XS.ifNo X131.here hx rfl (hb hby at_40) rfl ((if0 _ _).trans (feq (hc40 : ¬ ((p5 &&& (1 : Int32)) = (0 : Int32)))).1) ?_
    show Steps p.tables e below (T131.setTop (mkF m 43 #[.val (.long q0), .second, .val (.long q1), .second, .val (.long q2), .second, .val (.long q3), .second, .val (.long q4), .second, .val (.int p5), .val (.ref b123), .val (.ref b128), .unset, .unset, .unset, .unset, .unset, .unset] [])) _
    refine st133 _ ?_
    show Steps p.tables e below (T133.setTop (mkF m 46 #[.val (.long q0), .second, .val (.long q1), .second, .val (.long q2), .second, .val (.long q3), .second, .val (.long q4), .second, .val (.int p5), .val (.ref b123), .val (.ref b128), .unset, .unset, .unset, .unset, .unset, .unset] [(.ref b133)])) _
    refine XS.dup X133.here hx rfl (hb hby at_46) rfl rfl ?_
    show Steps p.tables e below (T133.setTop (mkF m 47 #[.val (.long q0), .second, .val (.long q1), .second, .val (.long q2), .second, .val (.long q3), .second, .val (.long q4), .second, .val (.int p5), .val (.ref b123), .val (.ref b128), .unset, .unset, .unset, .unset, .unset, .unset] [(.ref b133), (.ref b133)])) _
    refine XS.aload X133.here hx rfl (hb hby at_47) rfl rfl ?_
    show Steps p.tables e below (T133.setTop (mkF m 49 #[.val (.long q0), .second, .val (.long q1), .second, .val (.long q2), .second, .val (.long q3), .second, .val (.long q4), .second, .val (.int p5), .val (.ref b123), .val (.ref b128), .unset, .unset, .unset, .unset, .unset, .unset] [(.ref b123), (.ref b133), (.ref b133)])) _
    refine st135.trans ?_
    show Steps p.tables e below (T135.setTop (mkF m 52 #[.val (.long q0), .second, .val (.long q1), .second, .val (.long q2), .second, .val (.long q3), .second, .val (.long q4), .second, .val (.int p5), .val (.ref b123), .val (.ref b128), .unset, .unset, .unset, .unset, .unset, .unset] [(.ref b133)])) _
    refine XS.goto X135.here hx rfl (pc0 := 52) (pc' := 56) rfl (hb hby at_52) (by decide) (by decide) ?_
    show Steps p.tables e below (T135.setTop (mkF m 56 #[.val (.long q0), .second, .val (.long q1), .second, .val (.long q2), .second, .val (.long q3), .second, .val (.long q4), .second, .val (.int p5), .val (.ref b123), .val (.ref b128), .unset, .unset, .unset, .unset, .unset, .unset] [(.ref b133)])) _
    refine XS.astore X135.here hx rfl (hb hby at_56) rfl rfl (l' := #[.val (.long q0), .second, .val (.long q1), .second, .val (.long q2), .second, .val (.long q3), .second, .val (.long q4), .second, .val (.int p5), .val (.ref b123), .val (.ref b128), .val (.ref b133), .unset, .unset, .unset, .unset, .unset]) rfl ?_
    show Steps p.tables e below (T135.setTop (mkF m 58 #[.val (.long q0), .second, .val (.long q1), .second, .val (.long q2), .second, .val (.long q3), .second, .val (.long q4), .second, .val (.int p5), .val (.ref b123), .val (.ref b128), .val (.ref b133), .unset, .unset, .unset, .unset, .unset] [])) _
    refine XS.iload X135.here hx rfl (hb hby at_58) rfl ?_
    show Steps p.tables e below (T135.setTop (mkF m 60 #[.val (.long q0), .second, .val (.long q1), .second, .val (.long q2), .second, .val (.long q3), .second, .val (.long q4), .second, .val (.int p5), .val (.ref b123), .val (.ref b128), .val (.ref b133), .unset, .unset, .unset, .unset, .unset] [(.int p5)])) _
    refine XS.iconst X135.here hx rfl (hb hby at_60) ?_
    show Steps p.tables e below (T135.setTop (mkF m 61 #[.val (.long q0), .second, .val (.long q1), .second, .val (.long q2), .second, .val (.long q3), .second, .val (.long q4), .second, .val (.int p5), .val (.ref b123), .val (.ref b128), .val (.ref b133), .unset, .unset, .unset, .unset, .unset] [(.int (2 : Int32)), (.int p5)])) _
    refine XS.iand X135.here hx rfl (hb hby at_61) rfl ?_
    show Steps p.tables e below (T135.setTop (mkF m 62 #[.val (.long q0), .second, .val (.long q1), .second, .val (.long q2), .second, .val (.long q3), .second, .val (.long q4), .second, .val (.int p5), .val (.ref b123), .val (.ref b128), .val (.ref b133), .unset, .unset, .unset, .unset, .unset] [(.int (p5 &&& (2 : Int32)))])) _
    refine XS.ifYes X135.here hx rfl (pc0 := 62) (pc' := 77) rfl (hb hby at_62) rfl ((if0 _ _).trans (teq (hc62 : (p5 &&& (2 : Int32)) = (0 : Int32))).1) (by decide) (by decide) ?_
    show Steps p.tables e below (T135.setTop (mkF m 77 #[.val (.long q0), .second, .val (.long q1), .second, .val (.long q2), .second, .val (.long q3), .second, .val (.long q4), .second, .val (.int p5), .val (.ref b123), .val (.ref b128), .val (.ref b133), .unset, .unset, .unset, .unset, .unset] [])) _
    refine XS.aconstNull X135.here hx rfl (hb hby at_77) ?_
    show Steps p.tables e below (T135.setTop (mkF m 78 #[.val (.long q0), .second, .val (.long q1), .second, .val (.long q2), .second, .val (.long q3), .second, .val (.long q4), .second, .val (.int p5), .val (.ref b123), .val (.ref b128), .val (.ref b133), .unset, .unset, .unset, .unset, .unset] [.null])) _
    refine XS.astore X135.here hx rfl (hb hby at_78) rfl rfl (l' := #[.val (.long q0), .second, .val (.long q1), .second, .val (.long q2), .second, .val (.long q3), .second, .val (.long q4), .second, .val (.int p5), .val (.ref b123), .val (.ref b128), .val (.ref b133), .val .null, .unset, .unset, .unset, .unset]) rfl ?_
    show Steps p.tables e below (T135.setTop (mkF m 80 #[.val (.long q0), .second, .val (.long q1), .second, .val (.long q2), .second, .val (.long q3), .second, .val (.long q4), .second, .val (.int p5), .val (.ref b123), .val (.ref b128), .val (.ref b133), .val .null, .unset, .unset, .unset, .unset] [])) _
    refine st138 _ ?_
    show Steps p.tables e below (T138.setTop (mkF m 83 #[.val (.long q0), .second, .val (.long q1), .second, .val (.long q2), .second, .val (.long q3), .second, .val (.long q4), .second, .val (.int p5), .val (.ref b123), .val (.ref b128), .val (.ref b133), .val .null, .unset, .unset, .unset, .unset] [(.ref b138)])) _
    refine XS.dup X138.here hx rfl (hb hby at_83) rfl rfl ?_
    show Steps p.tables e below (T138.setTop (mkF m 84 #[.val (.long q0), .second, .val (.long q1), .second, .val (.long q2), .second, .val (.long q3), .second, .val (.long q4), .second, .val (.int p5), .val (.ref b123), .val (.ref b128), .val (.ref b133), .val .null, .unset, .unset, .unset, .unset] [(.ref b138), (.ref b138)])) _
    refine XS.lloadN X138.here hx rfl (hb hby at_84) rfl ?_
    show Steps p.tables e below (T138.setTop (mkF m 85 #[.val (.long q0), .second, .val (.long q1), .second, .val (.long q2), .second, .val (.long q3), .second, .val (.long q4), .second, .val (.int p5), .val (.ref b123), .val (.ref b128), .val (.ref b133), .val .null, .unset, .unset, .unset, .unset] [(.long q0), (.ref b138), (.ref b138)])) _
    refine XS.lload X138.here hx rfl (hb hby at_85) rfl ?_
    show Steps p.tables e below (T138.setTop (mkF m 87 #[.val (.long q0), .second, .val (.long q1), .second, .val (.long q2), .second, .val (.long q3), .second, .val (.long q4), .second, .val (.int p5), .val (.ref b123), .val (.ref b128), .val (.ref b133), .val .null, .unset, .unset, .unset, .unset] [(.long q4), (.long q0), (.ref b138), (.ref b138)])) _
    refine XS.lload X138.here hx rfl (hb hby at_87) rfl ?_
    show Steps p.tables e below (T138.setTop (mkF m 89 #[.val (.long q0), .second, .val (.long q1), .second, .val (.long q2), .second, .val (.long q3), .second, .val (.long q4), .second, .val (.int p5), .val (.ref b123), .val (.ref b128), .val (.ref b133), .val .null, .unset, .unset, .unset, .unset] [(.long q2), (.long q4), (.long q0), (.ref b138), (.ref b138)])) _
    refine XS.aload X138.here hx rfl (hb hby at_89) rfl rfl ?_
    show Steps p.tables e below (T138.setTop (mkF m 91 #[.val (.long q0), .second, .val (.long q1), .second, .val (.long q2), .second, .val (.long q3), .second, .val (.long q4), .second, .val (.int p5), .val (.ref b123), .val (.ref b128), .val (.ref b133), .val .null, .unset, .unset, .unset, .unset] [(.ref b133), (.long q2), (.long q4), (.long q0), (.ref b138), (.ref b138)])) _
    refine st140.trans ?_
    show Steps p.tables e below (T140.setTop (mkF m 94 #[.val (.long q0), .second, .val (.long q1), .second, .val (.long q2), .second, .val (.long q3), .second, .val (.long q4), .second, .val (.int p5), .val (.ref b123), .val (.ref b128), .val (.ref b133), .val .null, .unset, .unset, .unset, .unset] [(.ref b138)])) _
    refine XS.astore X140.here hx rfl (hb hby at_94) rfl rfl (l' := #[.val (.long q0), .second, .val (.long q1), .second, .val (.long q2), .second, .val (.long q3), .second, .val (.long q4), .second, .val (.int p5), .val (.ref b123), .val (.ref b128), .val (.ref b133), .val .null, .val (.ref b138), .unset, .unset, .unset]) rfl ?_
    show Steps p.tables e below (T140.setTop (mkF m 96 #[.val (.long q0), .second, .val (.long q1), .second, .val (.long q2), .second, .val (.long q3), .second, .val (.long q4), .second, .val (.int p5), .val (.ref b123), .val (.ref b128), .val (.ref b133), .val .null, .val (.ref b138), .unset, .unset, .unset] [])) _
    refine st142 _ ?_
    show Steps p.tables e below (T142.setTop (mkF m 99 #[.val (.long q0), .second, .val (.long q1), .second, .val (.long q2), .second, .val (.long q3), .second, .val (.long q4), .second, .val (.int p5), .val (.ref b123), .val (.ref b128), .val (.ref b133), .val .null, .val (.ref b138), .unset, .unset, .unset] [(.ref b142)])) _
    refine XS.dup X142.here hx rfl (hb hby at_99) rfl rfl ?_
    show Steps p.tables e below (T142.setTop (mkF m 100 #[.val (.long q0), .second, .val (.long q1), .second, .val (.long q2), .second, .val (.long q3), .second, .val (.long q4), .second, .val (.int p5), .val (.ref b123), .val (.ref b128), .val (.ref b133), .val .null, .val (.ref b138), .unset, .unset, .unset] [(.ref b142), (.ref b142)])) _
    refine XS.lloadN X142.here hx rfl (hb hby at_100) rfl ?_
    show Steps p.tables e below (T142.setTop (mkF m 101 #[.val (.long q0), .second, .val (.long q1), .second, .val (.long q2), .second, .val (.long q3), .second, .val (.long q4), .second, .val (.int p5), .val (.ref b123), .val (.ref b128), .val (.ref b133), .val .null, .val (.ref b138), .unset, .unset, .unset] [(.long q1), (.ref b142), (.ref b142)])) _
    refine XS.lload X142.here hx rfl (hb hby at_101) rfl ?_
    show Steps p.tables e below (T142.setTop (mkF m 103 #[.val (.long q0), .second, .val (.long q1), .second, .val (.long q2), .second, .val (.long q3), .second, .val (.long q4), .second, .val (.int p5), .val (.ref b123), .val (.ref b128), .val (.ref b133), .val .null, .val (.ref b138), .unset, .unset, .unset] [(.long q4), (.long q1), (.ref b142), (.ref b142)])) _
    refine X142.ldc2Long hx hown (mvT hZ (W 45 rfl)) (g := (mkF m 103 #[.val (.long q0), .second, .val (.long q1), .second, .val (.long q2), .second, .val (.long q3), .second, .val (.long q4), .second, .val (.int p5), .val (.ref b123), .val (.ref b128), .val (.ref b133), .val .null, .val (.ref b138), .unset, .unset, .unset] [(.long q4), (.long q1), (.ref b142), (.ref b142)])) rfl (hb hby at_103) _ ?_
    show Steps p.tables e below (T142.setTop (mkF m 106 #[.val (.long q0), .second, .val (.long q1), .second, .val (.long q2), .second, .val (.long q3), .second, .val (.long q4), .second, .val (.int p5), .val (.ref b123), .val (.ref b128), .val (.ref b133), .val .null, .val (.ref b138), .unset, .unset, .unset] [(.long (-1 : Int64)), (.long q4), (.long q1), (.ref b142), (.ref b142)])) _
    refine XS.lxor X142.here hx rfl (hb hby at_106) rfl ?_
    show Steps p.tables e below (T142.setTop (mkF m 107 #[.val (.long q0), .second, .val (.long q1), .second, .val (.long q2), .second, .val (.long q3), .second, .val (.long q4), .second, .val (.int p5), .val (.ref b123), .val (.ref b128), .val (.ref b133), .val .null, .val (.ref b138), .unset, .unset, .unset] [(.long (q4 ^^^ (-1 : Int64))), (.long q1), (.ref b142), (.ref b142)])) _
    refine XS.lload X142.here hx rfl (hb hby at_107) rfl ?_
    show Steps p.tables e below (T142.setTop (mkF m 109 #[.val (.long q0), .second, .val (.long q1), .second, .val (.long q2), .second, .val (.long q3), .second, .val (.long q4), .second, .val (.int p5), .val (.ref b123), .val (.ref b128), .val (.ref b133), .val .null, .val (.ref b138), .unset, .unset, .unset] [(.long q3), (.long (q4 ^^^ (-1 : Int64))), (.long q1), (.ref b142), (.ref b142)])) _
    refine XS.aload X142.here hx rfl (hb hby at_109) rfl rfl ?_
    show Steps p.tables e below (T142.setTop (mkF m 111 #[.val (.long q0), .second, .val (.long q1), .second, .val (.long q2), .second, .val (.long q3), .second, .val (.long q4), .second, .val (.int p5), .val (.ref b123), .val (.ref b128), .val (.ref b133), .val .null, .val (.ref b138), .unset, .unset, .unset] [.null, (.long q3), (.long (q4 ^^^ (-1 : Int64))), (.long q1), (.ref b142), (.ref b142)])) _
    refine st144.trans ?_
    show Steps p.tables e below (T144.setTop (mkF m 114 #[.val (.long q0), .second, .val (.long q1), .second, .val (.long q2), .second, .val (.long q3), .second, .val (.long q4), .second, .val (.int p5), .val (.ref b123), .val (.ref b128), .val (.ref b133), .val .null, .val (.ref b138), .unset, .unset, .unset] [(.ref b142)])) _
    refine XS.astore X144.here hx rfl (hb hby at_114) rfl rfl (l' := #[.val (.long q0), .second, .val (.long q1), .second, .val (.long q2), .second, .val (.long q3), .second, .val (.long q4), .second, .val (.int p5), .val (.ref b123), .val (.ref b128), .val (.ref b133), .val .null, .val (.ref b138), .val (.ref b142), .unset, .unset]) rfl ?_
    show Steps p.tables e below (T144.setTop (mkF m 116 #[.val (.long q0), .second, .val (.long q1), .second, .val (.long q2), .second, .val (.long q3), .second, .val (.long q4), .second, .val (.int p5), .val (.ref b123), .val (.ref b128), .val (.ref b133), .val .null, .val (.ref b138), .val (.ref b142), .unset, .unset] [])) _
    refine XS.aload X144.here hx rfl (hb hby at_116) rfl rfl ?_
    show Steps p.tables e below (T144.setTop (mkF m 118 #[.val (.long q0), .second, .val (.long q1), .second, .val (.long q2), .second, .val (.long q3), .second, .val (.long q4), .second, .val (.int p5), .val (.ref b123), .val (.ref b128), .val (.ref b133), .val .null, .val (.ref b138), .val (.ref b142), .unset, .unset] [(.ref b138)])) _
    refine XS.aload X144.here hx rfl (hb hby at_118) rfl rfl ?_
    show Steps p.tables e below (T144.setTop (mkF m 120 #[.val (.long q0), .second, .val (.long q1), .second, .val (.long q2), .second, .val (.long q3), .second, .val (.long q4), .second, .val (.int p5), .val (.ref b123), .val (.ref b128), .val (.ref b133), .val .null, .val (.ref b138), .val (.ref b142), .unset, .unset] [(.ref b142), (.ref b138)])) _
    refine st146.trans ?_
    show Steps p.tables e below (T146.setTop (mkF m 123 #[.val (.long q0), .second, .val (.long q1), .second, .val (.long q2), .second, .val (.long q3), .second, .val (.long q4), .second, .val (.int p5), .val (.ref b123), .val (.ref b128), .val (.ref b133), .val .null, .val (.ref b138), .val (.ref b142), .unset, .unset] [(.ref b_146)])) _
    refine XS.astore X146.here hx rfl (hb hby at_123) rfl rfl (l' := #[.val (.long q0), .second, .val (.long q1), .second, .val (.long q2), .second, .val (.long q3), .second, .val (.long q4), .second, .val (.int p5), .val (.ref b123), .val (.ref b128), .val (.ref b133), .val .null, .val (.ref b138), .val (.ref b142), .val (.ref b_146), .unset]) rfl ?_
    show Steps p.tables e below (T146.setTop (mkF m 125 #[.val (.long q0), .second, .val (.long q1), .second, .val (.long q2), .second, .val (.long q3), .second, .val (.long q4), .second, .val (.int p5), .val (.ref b123), .val (.ref b128), .val (.ref b133), .val .null, .val (.ref b138), .val (.ref b142), .val (.ref b_146), .unset] [])) _
    refine XS.aload X146.here hx rfl (hb hby at_125) rfl rfl ?_
    show Steps p.tables e below (T146.setTop (mkF m 127 #[.val (.long q0), .second, .val (.long q1), .second, .val (.long q2), .second, .val (.long q3), .second, .val (.long q4), .second, .val (.int p5), .val (.ref b123), .val (.ref b128), .val (.ref b133), .val .null, .val (.ref b138), .val (.ref b142), .val (.ref b_146), .unset] [(.ref b133)])) _
    refine XS.ifnullNo X146.here hx rfl (hb hby at_127) rfl ?_
    show Steps p.tables e below (T146.setTop (mkF m 130 #[.val (.long q0), .second, .val (.long q1), .second, .val (.long q2), .second, .val (.long q3), .second, .val (.long q4), .second, .val (.int p5), .val (.ref b123), .val (.ref b128), .val (.ref b133), .val .null, .val (.ref b138), .val (.ref b142), .val (.ref b_146), .unset] [])) _
    refine XS.aload X146.here hx rfl (hb hby at_130) rfl rfl ?_
    show Steps p.tables e below (T146.setTop (mkF m 132 #[.val (.long q0), .second, .val (.long q1), .second, .val (.long q2), .second, .val (.long q3), .second, .val (.long q4), .second, .val (.int p5), .val (.ref b123), .val (.ref b128), .val (.ref b133), .val .null, .val (.ref b138), .val (.ref b142), .val (.ref b_146), .unset] [(.ref b133)])) _
    refine XS.astore X146.here hx rfl (hb hby at_132) rfl rfl (l' := #[.val (.long q0), .second, .val (.long q1), .second, .val (.long q2), .second, .val (.long q3), .second, .val (.long q4), .second, .val (.int p5), .val (.ref b123), .val (.ref b128), .val (.ref b133), .val .null, .val (.ref b138), .val (.ref b142), .val (.ref b_146), .val (.ref b133)]) rfl ?_
    show Steps p.tables e below (T146.setTop (mkF m 134 #[.val (.long q0), .second, .val (.long q1), .second, .val (.long q2), .second, .val (.long q3), .second, .val (.long q4), .second, .val (.int p5), .val (.ref b123), .val (.ref b128), .val (.ref b133), .val .null, .val (.ref b138), .val (.ref b142), .val (.ref b_146), .val (.ref b133)] [])) _
    refine XS.goto X146.here hx rfl (pc0 := 134) (pc' := 141) rfl (hb hby at_134) (by decide) (by decide) ?_
    show Steps p.tables e below (T146.setTop (mkF m 141 #[.val (.long q0), .second, .val (.long q1), .second, .val (.long q2), .second, .val (.long q3), .second, .val (.long q4), .second, .val (.int p5), .val (.ref b123), .val (.ref b128), .val (.ref b133), .val .null, .val (.ref b138), .val (.ref b142), .val (.ref b_146), .val (.ref b133)] [])) _
    refine XS.aload X146.here hx rfl (hb hby at_141) rfl rfl ?_
    show Steps p.tables e below (T146.setTop (mkF m 143 #[.val (.long q0), .second, .val (.long q1), .second, .val (.long q2), .second, .val (.long q3), .second, .val (.long q4), .second, .val (.int p5), .val (.ref b123), .val (.ref b128), .val (.ref b133), .val .null, .val (.ref b138), .val (.ref b142), .val (.ref b_146), .val (.ref b133)] [(.ref b_146)])) _
    refine st153.trans ?_
    show Steps p.tables e below (T153.setTop (mkF m 146 #[.val (.long q0), .second, .val (.long q1), .second, .val (.long q2), .second, .val (.long q3), .second, .val (.long q4), .second, .val (.int p5), .val (.ref b123), .val (.ref b128), .val (.ref b133), .val .null, .val (.ref b138), .val (.ref b142), .val (.ref b_146), .val (.ref b133)] [(.long (q0 + q1))])) _
    refine XS.lloadN X153.here hx rfl (hb hby at_146) rfl ?_
    show Steps p.tables e below (T153.setTop (mkF m 147 #[.val (.long q0), .second, .val (.long q1), .second, .val (.long q2), .second, .val (.long q3), .second, .val (.long q4), .second, .val (.int p5), .val (.ref b123), .val (.ref b128), .val (.ref b133), .val .null, .val (.ref b138), .val (.ref b142), .val (.ref b_146), .val (.ref b133)] [(.long q0), (.long (q0 + q1))])) _
    refine XS.lloadN X153.here hx rfl (hb hby at_147) rfl ?_
    show Steps p.tables e below (T153.setTop (mkF m 148 #[.val (.long q0), .second, .val (.long q1), .second, .val (.long q2), .second, .val (.long q3), .second, .val (.long q4), .second, .val (.int p5), .val (.ref b123), .val (.ref b128), .val (.ref b133), .val .null, .val (.ref b138), .val (.ref b142), .val (.ref b_146), .val (.ref b133)] [(.long q1), (.long q0), (.long (q0 + q1))])) _
    refine XS.ladd X153.here hx rfl (hb hby at_148) rfl ?_
    show Steps p.tables e below (T153.setTop (mkF m 149 #[.val (.long q0), .second, .val (.long q1), .second, .val (.long q2), .second, .val (.long q3), .second, .val (.long q4), .second, .val (.int p5), .val (.ref b123), .val (.ref b128), .val (.ref b133), .val .null, .val (.ref b138), .val (.ref b142), .val (.ref b_146), .val (.ref b133)] [(.long (q0 + q1)), (.long (q0 + q1))])) _
    refine XS.lcmp X153.here hx rfl (hb hby at_149) rfl ?_
    show Steps p.tables e below (T153.setTop (mkF m 150 #[.val (.long q0), .second, .val (.long q1), .second, .val (.long q2), .second, .val (.long q3), .second, .val (.long q4), .second, .val (.int p5), .val (.ref b123), .val (.ref b128), .val (.ref b133), .val .null, .val (.ref b138), .val (.ref b142), .val (.ref b_146), .val (.ref b133)] [(.int (lcmpW (q0 + q1) (q0 + q1)))])) _
    refine XS.ifNo X153.here hx rfl (hb hby at_150) rfl ((if0 _ _).trans (teq ((lw_eq _ _).mpr rfl : (lcmpW (q0 + q1) (q0 + q1)) = (0 : Int32))).2) ?_
    show Steps p.tables e below (T153.setTop (mkF m 153 #[.val (.long q0), .second, .val (.long q1), .second, .val (.long q2), .second, .val (.long q3), .second, .val (.long q4), .second, .val (.int p5), .val (.ref b123), .val (.ref b128), .val (.ref b133), .val .null, .val (.ref b138), .val (.ref b142), .val (.ref b_146), .val (.ref b133)] [])) _
    refine XS.aload X153.here hx rfl (hb hby at_153) rfl rfl ?_
    show Steps p.tables e below (T153.setTop (mkF m 155 #[.val (.long q0), .second, .val (.long q1), .second, .val (.long q2), .second, .val (.long q3), .second, .val (.long q4), .second, .val (.int p5), .val (.ref b123), .val (.ref b128), .val (.ref b133), .val .null, .val (.ref b138), .val (.ref b142), .val (.ref b_146), .val (.ref b133)] [(.ref b_146)])) _
    refine st154.trans ?_
    show Steps p.tables e below (T154.setTop (mkF m 158 #[.val (.long q0), .second, .val (.long q1), .second, .val (.long q2), .second, .val (.long q3), .second, .val (.long q4), .second, .val (.int p5), .val (.ref b123), .val (.ref b128), .val (.ref b133), .val .null, .val (.ref b138), .val (.ref b142), .val (.ref b_146), .val (.ref b133)] [(.long (q2 + q3))])) _
    refine XS.lload X154.here hx rfl (hb hby at_158) rfl ?_
    show Steps p.tables e below (T154.setTop (mkF m 160 #[.val (.long q0), .second, .val (.long q1), .second, .val (.long q2), .second, .val (.long q3), .second, .val (.long q4), .second, .val (.int p5), .val (.ref b123), .val (.ref b128), .val (.ref b133), .val .null, .val (.ref b138), .val (.ref b142), .val (.ref b_146), .val (.ref b133)] [(.long q2), (.long (q2 + q3))])) _
    refine XS.lload X154.here hx rfl (hb hby at_160) rfl ?_
    show Steps p.tables e below (T154.setTop (mkF m 162 #[.val (.long q0), .second, .val (.long q1), .second, .val (.long q2), .second, .val (.long q3), .second, .val (.long q4), .second, .val (.int p5), .val (.ref b123), .val (.ref b128), .val (.ref b133), .val .null, .val (.ref b138), .val (.ref b142), .val (.ref b_146), .val (.ref b133)] [(.long q3), (.long q2), (.long (q2 + q3))])) _
    refine XS.ladd X154.here hx rfl (hb hby at_162) rfl ?_
    show Steps p.tables e below (T154.setTop (mkF m 163 #[.val (.long q0), .second, .val (.long q1), .second, .val (.long q2), .second, .val (.long q3), .second, .val (.long q4), .second, .val (.int p5), .val (.ref b123), .val (.ref b128), .val (.ref b133), .val .null, .val (.ref b138), .val (.ref b142), .val (.ref b_146), .val (.ref b133)] [(.long (q2 + q3)), (.long (q2 + q3))])) _
    refine XS.lcmp X154.here hx rfl (hb hby at_163) rfl ?_
    show Steps p.tables e below (T154.setTop (mkF m 164 #[.val (.long q0), .second, .val (.long q1), .second, .val (.long q2), .second, .val (.long q3), .second, .val (.long q4), .second, .val (.int p5), .val (.ref b123), .val (.ref b128), .val (.ref b133), .val .null, .val (.ref b138), .val (.ref b142), .val (.ref b_146), .val (.ref b133)] [(.int (lcmpW (q2 + q3) (q2 + q3)))])) _
    refine XS.ifNo X154.here hx rfl (hb hby at_164) rfl ((if0 _ _).trans (teq ((lw_eq _ _).mpr rfl : (lcmpW (q2 + q3) (q2 + q3)) = (0 : Int32))).2) ?_
    show Steps p.tables e below (T154.setTop (mkF m 167 #[.val (.long q0), .second, .val (.long q1), .second, .val (.long q2), .second, .val (.long q3), .second, .val (.long q4), .second, .val (.int p5), .val (.ref b123), .val (.ref b128), .val (.ref b133), .val .null, .val (.ref b138), .val (.ref b142), .val (.ref b_146), .val (.ref b133)] [])) _
    refine XS.aload X154.here hx rfl (hb hby at_167) rfl rfl ?_
    show Steps p.tables e below (T154.setTop (mkF m 169 #[.val (.long q0), .second, .val (.long q1), .second, .val (.long q2), .second, .val (.long q3), .second, .val (.long q4), .second, .val (.int p5), .val (.ref b123), .val (.ref b128), .val (.ref b133), .val .null, .val (.ref b138), .val (.ref b142), .val (.ref b_146), .val (.ref b133)] [(.ref b_146)])) _
    refine st155.trans ?_
    show Steps p.tables e below (T155.setTop (mkF m 172 #[.val (.long q0), .second, .val (.long q1), .second, .val (.long q2), .second, .val (.long q3), .second, .val (.long q4), .second, .val (.int p5), .val (.ref b123), .val (.ref b128), .val (.ref b133), .val .null, .val (.ref b138), .val (.ref b142), .val (.ref b_146), .val (.ref b133)] [(.ref b133)])) _
    refine XS.aload X155.here hx rfl (hb hby at_172) rfl rfl ?_
    show Steps p.tables e below (T155.setTop (mkF m 174 #[.val (.long q0), .second, .val (.long q1), .second, .val (.long q2), .second, .val (.long q3), .second, .val (.long q4), .second, .val (.int p5), .val (.ref b123), .val (.ref b128), .val (.ref b133), .val .null, .val (.ref b138), .val (.ref b142), .val (.ref b_146), .val (.ref b133)] [(.ref b133), (.ref b133)])) _
    refine Jvm.RoadKit.acmp (g := (mkF m 174 #[.val (.long q0), .second, .val (.long q1), .second, .val (.long q2), .second, .val (.long q3), .second, .val (.long q4), .second, .val (.int p5), .val (.ref b123), .val (.ref b128), .val (.ref b133), .val .null, .val (.ref b138), .val (.ref b142), .val (.ref b_146), .val (.ref b133)] [(.ref b133), (.ref b133)])) X155 hx rfl rfl rfl (pc0 := 174) (pc' := 177) (same := true) rfl (hb hby at_174) rfl (decide_eq_true rfl) (by decide) (by decide) ?_
    show Steps p.tables e below (T155.setTop (mkF m 177 #[.val (.long q0), .second, .val (.long q1), .second, .val (.long q2), .second, .val (.long q3), .second, .val (.long q4), .second, .val (.int p5), .val (.ref b123), .val (.ref b128), .val (.ref b133), .val .null, .val (.ref b138), .val (.ref b142), .val (.ref b_146), .val (.ref b133)] [])) _
    refine XS.iconst X155.here hx rfl (hb hby at_177) ?_
    show Steps p.tables e below (T155.setTop (mkF m 178 #[.val (.long q0), .second, .val (.long q1), .second, .val (.long q2), .second, .val (.long q3), .second, .val (.long q4), .second, .val (.int p5), .val (.ref b123), .val (.ref b128), .val (.ref b133), .val .null, .val (.ref b138), .val (.ref b142), .val (.ref b_146), .val (.ref b133)] [(.int (1 : Int32))])) _
    refine XS.goto X155.here hx rfl (pc0 := 178) (pc' := 182) rfl (hb hby at_178) (by decide) (by decide) ?_
    show Steps p.tables e below (T155.setTop (mkF m 182 #[.val (.long q0), .second, .val (.long q1), .second, .val (.long q2), .second, .val (.long q3), .second, .val (.long q4), .second, .val (.int p5), .val (.ref b123), .val (.ref b128), .val (.ref b133), .val .null, .val (.ref b138), .val (.ref b142), .val (.ref b_146), .val (.ref b133)] [(.int (1 : Int32))])) _
    exact retN X155 hx (t := .boolean) Bd.returns (by simp) (hb hby at_182) hr
  · show Q0 Z G1 q0 q1 q2 q3 q4 p5 h0 n0 _ T155.heap _
    rw [eq155]
    exact ⟨rfl, N155, K0_152⟩
set_option maxRecDepth 65536 in
set_option maxHeartbeats 40000000 in
theorem rm0_ff (l : Launch) (Z : State) (a0 : Array Value) (G1 : Int32) (hG : Glob Z a0 G1) (ws : List Jvm.Cond) (q0 : Int64) (q1 : Int64) (q2 : Int64) (q3 : Int64) (q4 : Int64) (p5 : Int32) (h0 : Heap) (n0 : Nat) (Z0 : n0 ≤ h0.size) (X00 : Old Z n0 h0) (hc40 : ¬ ((p5 &&& (1 : Int32)) = (0 : Int32))) (hc62 : ¬ ((p5 &&& (2 : Int32)) = (0 : Int32))) :
    MetFree l x (head1 (Jvm.Cond.code x code maxLocals ret :: ws) room_1) (fun a U => a = #[(.long q0), (.long q1), (.long q2), (.long q3), (.long q4), (.int p5)] ∧ Z.Warmed39 U.vm ∧ U.heap = h0) (fun _ _ _ _ _ => True) (fun _ U o U' => ∃ v L, o = .returned v ∧ Q0 Z G1 q0 q1 q2 q3 q4 p5 h0 n0 v U'.heap L ∧ FrameEnd U o U' L room_1.cells room_1.slots) := by
  obtain ⟨hw, O_cs, P_cs⟩ := id hG
  have W : ∀ (i : Nat) {d : Jvm.Cond}, tables_1[i]? = some d → d.before a0 Z = true := fun i d h => hw d (List.mem_of_getElem? h)
  refine MetFree.of_bodySF (plainFor_of_name pn_com_example_armor_for_retries_armorforretries_bench_TallyPlusPinLaw) hisR ?_
  intro p e s m args below meth c s₁ Bd hml0 hP hK
  obtain ⟨rfl, hZ, hh⟩ := hP
  have hx := Bd.exec
  have hby := Bd.bytes
  have hml : c.maxLocals = 19 := hml0
  have hown : s.vm.findClass "com/example/armor_for_retries/armorforretries/bench/TallyPlusPinLaw" = some m.cls := findClass_of_methodNamed Bd.named
  have hnm := (name_of_methodNamed Bd.named Bd.method).1
  have X0 : Stand p l e room_1 s m #[(.long q0), (.long q1), (.long q2), (.long q3), (.long q4), (.int p5)] below meth c s₁ [] 0 0 := Stand.of_body Bd
  have e0 : s₁.heap = h0 := by rw [← hh, Bd.state]; rfl
  have N0 := Fr.nil n0
  have pre0 : ∀ t, Steps p.tables e below (s₁.setTop (mkF m 0 #[.val (.long q0), .second, .val (.long q1), .second, .val (.long q2), .second, .val (.long q3), .second, .val (.long q4), .second, .val (.int p5), .unset, .unset, .unset, .unset, .unset, .unset, .unset, .unset] [])) t → Steps p.tables e below (s₁.setTop (entryFrame m #[(.long q0), (.long q1), (.long q2), (.long q3), (.long q4), (.int p5)] maxLocals)) t := fun t k => castTop (ef_code_JJJJJI m q0 q1 q2 q3 q4 p5) k
  obtain ⟨T156, h156, k156, X156, e156, E156, A156, st156⟩ := newP X0 hx hZ (W 0 rfl) e0 (g := (mkF m 1 #[.val (.long q0), .second, .val (.long q1), .second, .val (.long q2), .second, .val (.long q3), .second, .val (.long q4), .second, .val (.int p5), .unset, .unset, .unset, .unset, .unset, .unset, .unset, .unset] [(.int (1 : Int32))])) rfl (hb hby at_1) rfl (by decide) (cap := 1) (by decide) (by decide) (by decide) (by decide)
  obtain ⟨b156, g156⟩ : ∃ z, z = h0.size := ⟨_, rfl⟩
  rw [← g156] at A156 st156
  have Z157 : n0 ≤ h156.size := Nat.le_trans Z0 E156.1
  have K0_157 : Keep h0 h156 [] := (Keep.refl h0 []).ext E156
  have O157 : Old Z n0 h156 := X00.ext E156
  have lo_b156 : h0.size ≤ b156 := Nat.le_of_eq g156.symm
  have g_b156 : n0 ≤ b156 := Nat.le_trans Z0 lo_b156
  have l0_b156 : h0.size ≤ b156 := Nat.le_trans (Keep.refl h0 []).1 lo_b156
  have V_b156 : Arv Z h156 b156 k156 .char (1 : Int32) [(.int (0 : Int32))] (.int (0 : Int32)) := (Arv.new A156 (by decide)).pad (pad_rep [] (.int (0 : Int32)) 1)
  obtain ⟨clq158, Arq158, qaq158, Sq158, Nq158, Hq158, Gq158⟩ := id V_b156
  have hinq158 : ¬ ((0 : Int32) < 0 ∨ clq158.slots.size ≤ ((0 : Int32)).toNatClampNeg) := inb_of Sq158 ⟨by decide, by decide⟩
  obtain ⟨T159, h159, X159, e159, W159, st159⟩ := stC X156 hx hZ e156 Arq158 (j := (0 : Int32)) hinq158 (g := (mkF m 15 #[.val (.long q0), .second, .val (.long q1), .second, .val (.long q2), .second, .val (.long q3), .second, .val (.long q4), .second, .val (.int p5), .unset, .unset, .unset, .unset, .unset, .unset, .unset, .unset] [(.int ((((p5.toUInt32 >>> ((8 : Int32) &&& 31).toUInt32).toInt32) &&& (255 : Int32)).toUInt32.toUInt16.toUInt32.toInt32)), (.int (0 : Int32)), (.ref b156), (.ref b156)])) rfl rfl (hb hby at_15)
  have V159 : Arv Z h159 b156 k156 .char (1 : Int32) [(.int (nar .char ((((p5.toUInt32 >>> ((8 : Int32) &&& 31).toUInt32).toInt32) &&& (255 : Int32)).toUInt32.toUInt16.toUInt32.toInt32)))] (.int (0 : Int32)) := Arv.set Arq158 qaq158 Sq158 Nq158 Hq158 Gq158 (fits_nar_char _) W159 0 rfl (Nat.le_of_ble_eq_true rfl)
  have Z160 : n0 ≤ h159.size := Nat.le_trans Z157 (Keep.of_wr W159).1
  have K0_160 : Keep h0 h159 [] := K0_157.wr W159 (Or.inr l0_b156)
  have O160 : Old Z n0 h159 := O157.wr W159 g_b156
  have N159 := Fr.snoc X159 N0 g_b156
  obtain ⟨T161, h161, k161, X161, e161, E161, A161, st161⟩ := newP X159 hx hZ (W 0 rfl) e159 (g := (mkF m 19 #[.val (.long q0), .second, .val (.long q1), .second, .val (.long q2), .second, .val (.long q3), .second, .val (.long q4), .second, .val (.int p5), .val (.ref b156), .unset, .unset, .unset, .unset, .unset, .unset, .unset] [(.int (1 : Int32))])) rfl (hb hby at_19) rfl (by decide) (cap := 1) (by decide) (by decide) (by decide) (by decide)
  obtain ⟨b161, g161⟩ : ∃ z, z = h159.size := ⟨_, rfl⟩
  rw [← g161] at A161 st161
  have Z162 : n0 ≤ h161.size := Nat.le_trans Z160 E161.1
  have K0_162 : Keep h0 h161 [] := K0_160.ext E161
  have O162 : Old Z n0 h161 := O160.ext E161
  have lo_b161 : h159.size ≤ b161 := Nat.le_of_eq g161.symm
  have g_b161 : n0 ≤ b161 := Nat.le_trans Z160 lo_b161
  have l0_b161 : h0.size ≤ b161 := Nat.le_trans K0_160.1 lo_b161
  have V_b161 : Arv Z h161 b161 k161 .char (1 : Int32) [(.int (0 : Int32))] (.int (0 : Int32)) := (Arv.new A161 (by decide)).pad (pad_rep [] (.int (0 : Int32)) 1)
  obtain ⟨clq163, Arq163, qaq163, Sq163, Nq163, Hq163, Gq163⟩ := id V_b161
  have hinq163 : ¬ ((0 : Int32) < 0 ∨ clq163.slots.size ≤ ((0 : Int32)).toNatClampNeg) := inb_of Sq163 ⟨by decide, by decide⟩
  obtain ⟨T164, h164, X164, e164, W164, st164⟩ := stC X161 hx hZ e161 Arq163 (j := (0 : Int32)) hinq163 (g := (mkF m 33 #[.val (.long q0), .second, .val (.long q1), .second, .val (.long q2), .second, .val (.long q3), .second, .val (.long q4), .second, .val (.int p5), .val (.ref b156), .unset, .unset, .unset, .unset, .unset, .unset, .unset] [(.int ((((p5.toUInt32 >>> ((16 : Int32) &&& 31).toUInt32).toInt32) &&& (255 : Int32)).toUInt32.toUInt16.toUInt32.toInt32)), (.int (0 : Int32)), (.ref b161), (.ref b161)])) rfl rfl (hb hby at_33)
  have V164 : Arv Z h164 b161 k161 .char (1 : Int32) [(.int (nar .char ((((p5.toUInt32 >>> ((16 : Int32) &&& 31).toUInt32).toInt32) &&& (255 : Int32)).toUInt32.toUInt16.toUInt32.toInt32)))] (.int (0 : Int32)) := Arv.set Arq163 qaq163 Sq163 Nq163 Hq163 Gq163 (fits_nar_char _) W164 0 rfl (Nat.le_of_ble_eq_true rfl)
  have Z165 : n0 ≤ h164.size := Nat.le_trans Z162 (Keep.of_wr W164).1
  have K0_165 : Keep h0 h164 [] := K0_162.wr W164 (Or.inr l0_b161)
  have O165 : Old Z n0 h164 := O162.wr W164 g_b161
  have N164 := Fr.snoc X164 N159 g_b161
  obtain ⟨T166, h166, X166, e166, E166, A166, D166, -, st166⟩ := newO X164 hx hZ hown (W 1 rfl) (W 2 rfl) (W 3 rfl) e164 (g := (mkF m 43 #[.val (.long q0), .second, .val (.long q1), .second, .val (.long q2), .second, .val (.long q3), .second, .val (.long q4), .second, .val (.int p5), .val (.ref b156), .val (.ref b161), .unset, .unset, .unset, .unset, .unset, .unset] [])) rfl (hb hby at_43) (by decide) (by decide)
  obtain ⟨b166, g166⟩ : ∃ z, z = h164.size := ⟨_, rfl⟩
  rw [← g166] at A166 D166 st166
  have Z167 : n0 ≤ h166.size := Nat.le_trans Z165 E166.1
  have K0_167 : Keep h0 h166 [] := K0_165.ext E166
  have O167 : Old Z n0 h166 := O165.ext E166
  have lo_b166 : h164.size ≤ b166 := Nat.le_of_eq g166.symm
  have g_b166 : n0 ≤ b166 := Nat.le_trans Z165 lo_b166
  have l0_b166 : h0.size ≤ b166 := Nat.le_trans K0_165.1 lo_b166
  have F_coder_b166 : Fld Z h166 b166 "java/lang/String" "coder" "B" (.int (0 : Int32)) := D166 (Or.inr (W 27 rfl)) (ty := .byte) (by decide)
  have F_value_b166 : Fld Z h166 b166 "java/lang/String" "value" "[B" .null := D166 (Or.inr (W 29 rfl)) (ty := (.array .byte)) (by decide)
  have hws168 := own_hws hw
  have hp168 : ∀ c ∈ ([(nar .char ((((p5.toUInt32 >>> ((8 : Int32) &&& 31).toUInt32).toInt32) &&& (255 : Int32)).toUInt32.toUInt16.toUInt32.toInt32))] : List Int32), ¬ c < 0 ∧ ¬ (255 : Int32) < c := by
    intro c hc
    simp only [List.mem_cons, List.not_mem_nil, or_false] at hc
    rcases hc with rfl <;> exact own_char255 _
  have f169 := (((V159.ext E161).other W164 (Nat.ne_of_lt (Nat.lt_of_lt_of_le V159.lt lo_b161))).ext E166)
  -- pc 49: java/lang/String.<init>
  obtain ⟨_, _, ⟨T168, L168, k168, n168⟩, -, X168, ⟨Lc168, hQ168, l168, y168, z168⟩, st168⟩ := X166.specialBack hx (y := y5) rfl hown (mvT hZ (W 4 rfl)) (mvT hZ (W 5 rfl)) (mvT hZ (W 6 rfl)) (by decide) (StrChars.Road.backV (W := 1) hZ hws168 (kI := 4) (W 2 rfl) (cs := ([(nar .char ((((p5.toUInt32 >>> ((8 : Int32) &&& 31).toUInt32).toInt32) &&& (255 : Int32)).toUInt32.toUInt16.toUInt32.toInt32))] : List Int32)) (bs := (([(nar .char ((((p5.toUInt32 >>> ((8 : Int32) &&& 31).toUInt32).toInt32) &&& (255 : Int32)).toUInt32.toUInt16.toUInt32.toInt32))] : List Int32)).map (fun c => c.toInt8.toInt32)) (n := 1) g_b166 Z167 A166 F_value_b166 F_coder_b166 f169 (O_cs.ext O167.2) P_cs rfl rfl (by decide) (by decide) hp168 rfl (by decide) (by decide)) (g := (mkF m 49 #[.val (.long q0), .second, .val (.long q1), .second, .val (.long q2), .second, .val (.long q3), .second, .val (.long q4), .second, .val (.int p5), .val (.ref b156), .val (.ref b161), .unset, .unset, .unset, .unset, .unset, .unset] [(.ref b156), (.ref b166), (.ref b166)])) rfl (by rw [hml]; rfl) (Steps.refl _) (a := b166) (argsL := [(.ref b156)]) (rest := [(.ref b166)]) (lenOf pd___C_V rfl) rfl (by show 2 * 0 + _ ≤ _; exact Nat.le_of_eq rfl) (hb hby at_49) (fun _ _ => ⟨rfl, e166, (by decide : 3 + 1 ≤ _), (by decide : 6 + 1 ≤ _)⟩)
  dsimp only [Pt.U, Pt.locs, Pt.cells, Pt.slots] at X168 l168 y168 z168 st168 hQ168
  subst l168 y168 z168
  obtain ⟨rfl, N168q, K168, E168x, C168x, t168, kb168, gt168, lt168, nt168, V168x, B168x⟩ := hQ168
  have N168 := Fr.app N164 N168q
  have Z170 : n0 ≤ T168.heap.size := Nat.le_trans Z167 K168.1
  have K0_170 : Keep h0 T168.heap [] := K0_167.trans K168 (allS (Or.inr l0_b166) all0)
  have O170 : Old Z n0 T168.heap := O167.keep K168 (allS g_b166 all0)
  have lo_t168 : h166.size ≤ t168 := lt168
  have g_t168 : n0 ≤ t168 := Nat.le_trans Z167 lo_t168
  have l0_t168 : h0.size ≤ t168 := Nat.le_trans K0_167.1 lo_t168
  obtain ⟨T171, h171, X171, e171, E171, A171, D171, -, st171⟩ := newO X168 hx hZ hown (W 1 rfl) (W 2 rfl) (W 3 rfl) rfl (g := (mkF m 65 #[.val (.long q0), .second, .val (.long q1), .second, .val (.long q2), .second, .val (.long q3), .second, .val (.long q4), .second, .val (.int p5), .val (.ref b156), .val (.ref b161), .val (.ref b166), .unset, .unset, .unset, .unset, .unset] [])) rfl (hb hby at_65) (by decide) (by decide)
  obtain ⟨b171, g171⟩ : ∃ z, z = T168.heap.size := ⟨_, rfl⟩
  rw [← g171] at A171 D171 st171
  have Z172 : n0 ≤ h171.size := Nat.le_trans Z170 E171.1
  have K0_172 : Keep h0 h171 [] := K0_170.ext E171
  have O172 : Old Z n0 h171 := O170.ext E171
  have lo_b171 : T168.heap.size ≤ b171 := Nat.le_of_eq g171.symm
  have g_b171 : n0 ≤ b171 := Nat.le_trans Z170 lo_b171
  have l0_b171 : h0.size ≤ b171 := Nat.le_trans K0_170.1 lo_b171
  have F_coder_b171 : Fld Z h171 b171 "java/lang/String" "coder" "B" (.int (0 : Int32)) := D171 (Or.inr (W 27 rfl)) (ty := .byte) (by decide)
  have F_value_b171 : Fld Z h171 b171 "java/lang/String" "value" "[B" .null := D171 (Or.inr (W 29 rfl)) (ty := (.array .byte)) (by decide)
  have hws173 := own_hws hw
  have hp173 : ∀ c ∈ ([(nar .char ((((p5.toUInt32 >>> ((16 : Int32) &&& 31).toUInt32).toInt32) &&& (255 : Int32)).toUInt32.toUInt16.toUInt32.toInt32))] : List Int32), ¬ c < 0 ∧ ¬ (255 : Int32) < c := by
    intro c hc
    simp only [List.mem_cons, List.not_mem_nil, or_false] at hc
    rcases hc with rfl <;> exact own_char255 _
  have f174 := (((V164.ext E166).keep K168 (ninS (Nat.ne_of_lt (Nat.lt_of_lt_of_le V164.lt lo_b166)) nin0)).ext E171)
  -- pc 71: java/lang/String.<init>
  obtain ⟨_, _, ⟨T173, L173, k173, n173⟩, -, X173, ⟨Lc173, hQ173, l173, y173, z173⟩, st173⟩ := X171.specialBack hx (y := y5) rfl hown (mvT hZ (W 4 rfl)) (mvT hZ (W 5 rfl)) (mvT hZ (W 6 rfl)) (by decide) (StrChars.Road.backV (W := 1) hZ hws173 (kI := 4) (W 2 rfl) (cs := ([(nar .char ((((p5.toUInt32 >>> ((16 : Int32) &&& 31).toUInt32).toInt32) &&& (255 : Int32)).toUInt32.toUInt16.toUInt32.toInt32))] : List Int32)) (bs := (([(nar .char ((((p5.toUInt32 >>> ((16 : Int32) &&& 31).toUInt32).toInt32) &&& (255 : Int32)).toUInt32.toUInt16.toUInt32.toInt32))] : List Int32)).map (fun c => c.toInt8.toInt32)) (n := 1) g_b171 Z172 A171 F_value_b171 F_coder_b171 f174 (O_cs.ext O172.2) P_cs rfl rfl (by decide) (by decide) hp173 rfl (by decide) (by decide)) (g := (mkF m 71 #[.val (.long q0), .second, .val (.long q1), .second, .val (.long q2), .second, .val (.long q3), .second, .val (.long q4), .second, .val (.int p5), .val (.ref b156), .val (.ref b161), .val (.ref b166), .unset, .unset, .unset, .unset, .unset] [(.ref b161), (.ref b171), (.ref b171)])) rfl (by rw [hml]; rfl) (Steps.refl _) (a := b171) (argsL := [(.ref b161)]) (rest := [(.ref b171)]) (lenOf pd___C_V rfl) rfl (by show 2 * 0 + _ ≤ _; exact Nat.le_of_eq rfl) (hb hby at_71) (fun _ _ => ⟨rfl, e171, (by decide : 5 + 1 ≤ _), (by decide : 11 + 1 ≤ _)⟩)
  dsimp only [Pt.U, Pt.locs, Pt.cells, Pt.slots] at X173 l173 y173 z173 st173 hQ173
  subst l173 y173 z173
  obtain ⟨rfl, N173q, K173, E173x, C173x, t173, kb173, gt173, lt173, nt173, V173x, B173x⟩ := hQ173
  have N173 := Fr.app N168 N173q
  have Z175 : n0 ≤ T173.heap.size := Nat.le_trans Z172 K173.1
  have K0_175 : Keep h0 T173.heap [] := K0_172.trans K173 (allS (Or.inr l0_b171) all0)
  have O175 : Old Z n0 T173.heap := O172.keep K173 (allS g_b171 all0)
  have lo_t173 : h171.size ≤ t173 := lt173
  have g_t173 : n0 ≤ t173 := Nat.le_trans Z172 lo_t173
  have l0_t173 : h0.size ≤ t173 := Nat.le_trans K0_172.1 lo_t173
  obtain ⟨T176, h176, X176, e176, E176, A176, D176, -, st176⟩ := newO X173 hx hZ hown (W 30 rfl) (W 31 rfl) (W 32 rfl) rfl (g := (mkF m 80 #[.val (.long q0), .second, .val (.long q1), .second, .val (.long q2), .second, .val (.long q3), .second, .val (.long q4), .second, .val (.int p5), .val (.ref b156), .val (.ref b161), .val (.ref b166), .val (.ref b171), .unset, .unset, .unset, .unset] [])) rfl (hb hby at_80) (by decide) (by decide)
  obtain ⟨b176, g176⟩ : ∃ z, z = T173.heap.size := ⟨_, rfl⟩
  rw [← g176] at A176 D176 st176
  have Z177 : n0 ≤ h176.size := Nat.le_trans Z175 E176.1
  have K0_177 : Keep h0 h176 [] := K0_175.ext E176
  have O177 : Old Z n0 h176 := O175.ext E176
  have lo_b176 : T173.heap.size ≤ b176 := Nat.le_of_eq g176.symm
  have g_b176 : n0 ≤ b176 := Nat.le_trans Z175 lo_b176
  have l0_b176 : h0.size ≤ b176 := Nat.le_trans K0_175.1 lo_b176
  have F_created_b176 : Fld Z h176 b176 "com/example/armor_for_retries/armorforretries/bench/Tally" "created" "J" (.long (0 : Int64)) := D176 (Or.inr (W 38 rfl)) (ty := .long) (by decide)
  have F_windowed_b176 : Fld Z h176 b176 "com/example/armor_for_retries/armorforretries/bench/Tally" "windowed" "J" (.long (0 : Int64)) := D176 (Or.inr (W 40 rfl)) (ty := .long) (by decide)
  have F_errors_b176 : Fld Z h176 b176 "com/example/armor_for_retries/armorforretries/bench/Tally" "errors" "J" (.long (0 : Int64)) := D176 (Or.inr (W 42 rfl)) (ty := .long) (by decide)
  have F_firstError_b176 : Fld Z h176 b176 "com/example/armor_for_retries/armorforretries/bench/Tally" "firstError" "Ljava/lang/String;" .null := D176 (Or.inr (W 44 rfl)) (ty := (.object "java/lang/String")) (by decide)
  -- pc 91: com/example/armor_for_retries/armorforretries/bench/Tally.<init>
  obtain ⟨_, _, ⟨T178, L178, k178, n178⟩, -, X178, ⟨Lc178, hQ178, l178, y178, z178⟩, st178⟩ := X176.specialBack hx (y := y0) rfl hown (mvT hZ (W 33 rfl)) (mvT hZ (W 34 rfl)) (mvT hZ (W 35 rfl)) (by decide) (backOf (W := 1) (rmTI l Z a0 G1 hG [] b176 q0 q4 q2 (.ref b166) h176 n0 Z177 O177 A176 F_created_b176 F_windowed_b176 F_errors_b176 F_firstError_b176 g_b176 rfl) hZ (W 35 rfl) (W 32 rfl) (by decide) (by decide)) (g := (mkF m 91 #[.val (.long q0), .second, .val (.long q1), .second, .val (.long q2), .second, .val (.long q3), .second, .val (.long q4), .second, .val (.int p5), .val (.ref b156), .val (.ref b161), .val (.ref b166), .val (.ref b171), .unset, .unset, .unset, .unset] [(.ref b166), (.long q2), (.long q4), (.long q0), (.ref b176), (.ref b176)])) rfl (by rw [hml]; rfl) (Steps.refl _) (a := b176) (argsL := [(.long q0), (.long q4), (.long q2), (.ref b166)]) (rest := [(.ref b176)]) (lenOf pd__JJJLjava_lang_String__V rfl) rfl (by show 2 * 0 + _ ≤ _; exact Nat.le_of_eq rfl) (hb hby at_91) (fun _ _ => ⟨rfl, e176, (by decide : 7 + 0 ≤ _), (by decide : 16 + 0 ≤ _)⟩)
  dsimp only [Pt.U, Pt.locs, Pt.cells, Pt.slots] at X178 l178 y178 z178 st178 hQ178
  subst l178 y178 z178
  obtain ⟨rfl, N178q, K178, f178_0, f178_1, f178_2, f178_3, f178_4⟩ := hQ178
  have N178 := Fr.app N173 N178q
  have Z179 : n0 ≤ T178.heap.size := Nat.le_trans Z177 K178.1
  have K0_179 : Keep h0 T178.heap [] := K0_177.trans K178 (allS (Or.inr l0_b176) all0)
  have O179 : Old Z n0 T178.heap := O177.keep K178 (allS g_b176 all0)
  obtain ⟨T180, h180, X180, e180, E180, A180, D180, -, st180⟩ := newO X178 hx hZ hown (W 30 rfl) (W 31 rfl) (W 32 rfl) rfl (g := (mkF m 96 #[.val (.long q0), .second, .val (.long q1), .second, .val (.long q2), .second, .val (.long q3), .second, .val (.long q4), .second, .val (.int p5), .val (.ref b156), .val (.ref b161), .val (.ref b166), .val (.ref b171), .val (.ref b176), .unset, .unset, .unset] [])) rfl (hb hby at_96) (by decide) (by decide)
  obtain ⟨b180, g180⟩ : ∃ z, z = T178.heap.size := ⟨_, rfl⟩
  rw [← g180] at A180 D180 st180
  have Z181 : n0 ≤ h180.size := Nat.le_trans Z179 E180.1
  have K0_181 : Keep h0 h180 [] := K0_179.ext E180
  have O181 : Old Z n0 h180 := O179.ext E180
  have lo_b180 : T178.heap.size ≤ b180 := Nat.le_of_eq g180.symm
  have g_b180 : n0 ≤ b180 := Nat.le_trans Z179 lo_b180
  have l0_b180 : h0.size ≤ b180 := Nat.le_trans K0_179.1 lo_b180
  have F_created_b180 : Fld Z h180 b180 "com/example/armor_for_retries/armorforretries/bench/Tally" "created" "J" (.long (0 : Int64)) := D180 (Or.inr (W 38 rfl)) (ty := .long) (by decide)
  have F_windowed_b180 : Fld Z h180 b180 "com/example/armor_for_retries/armorforretries/bench/Tally" "windowed" "J" (.long (0 : Int64)) := D180 (Or.inr (W 40 rfl)) (ty := .long) (by decide)
  have F_errors_b180 : Fld Z h180 b180 "com/example/armor_for_retries/armorforretries/bench/Tally" "errors" "J" (.long (0 : Int64)) := D180 (Or.inr (W 42 rfl)) (ty := .long) (by decide)
  have F_firstError_b180 : Fld Z h180 b180 "com/example/armor_for_retries/armorforretries/bench/Tally" "firstError" "Ljava/lang/String;" .null := D180 (Or.inr (W 44 rfl)) (ty := (.object "java/lang/String")) (by decide)
  -- pc 111: com/example/armor_for_retries/armorforretries/bench/Tally.<init>
  obtain ⟨_, _, ⟨T182, L182, k182, n182⟩, -, X182, ⟨Lc182, hQ182, l182, y182, z182⟩, st182⟩ := X180.specialBack hx (y := y0) rfl hown (mvT hZ (W 33 rfl)) (mvT hZ (W 34 rfl)) (mvT hZ (W 35 rfl)) (by decide) (backOf (W := 1) (rmTI l Z a0 G1 hG [] b180 q1 (q4 ^^^ (-1 : Int64)) q3 (.ref b171) h180 n0 Z181 O181 A180 F_created_b180 F_windowed_b180 F_errors_b180 F_firstError_b180 g_b180 rfl) hZ (W 35 rfl) (W 32 rfl) (by decide) (by decide)) (g := (mkF m 111 #[.val (.long q0), .second, .val (.long q1), .second, .val (.long q2), .second, .val (.long q3), .second, .val (.long q4), .second, .val (.int p5), .val (.ref b156), .val (.ref b161), .val (.ref b166), .val (.ref b171), .val (.ref b176), .unset, .unset, .unset] [(.ref b171), (.long q3), (.long (q4 ^^^ (-1 : Int64))), (.long q1), (.ref b180), (.ref b180)])) rfl (by rw [hml]; rfl) (Steps.refl _) (a := b180) (argsL := [(.long q1), (.long (q4 ^^^ (-1 : Int64))), (.long q3), (.ref b171)]) (rest := [(.ref b180)]) (lenOf pd__JJJLjava_lang_String__V rfl) rfl (by show 2 * 0 + _ ≤ _; exact Nat.le_of_eq rfl) (hb hby at_111) (fun _ _ => ⟨rfl, e180, (by decide : 8 + 0 ≤ _), (by decide : 20 + 0 ≤ _)⟩)
  dsimp only [Pt.U, Pt.locs, Pt.cells, Pt.slots] at X182 l182 y182 z182 st182 hQ182
  subst l182 y182 z182
  obtain ⟨rfl, N182q, K182, f182_0, f182_1, f182_2, f182_3, f182_4⟩ := hQ182
  have N182 := Fr.app N178 N182q
  have Z183 : n0 ≤ T182.heap.size := Nat.le_trans Z181 K182.1
  have K0_183 : Keep h0 T182.heap [] := K0_181.trans K182 (allS (Or.inr l0_b180) all0)
  have O183 : Old Z n0 T182.heap := O181.keep K182 (allS g_b180 all0)
  have f185 := ((f178_0.ext E180).keep K182)
  have f186 := ((f178_1.ext E180).keep K182 (ninS (Nat.ne_of_lt (Nat.lt_of_lt_of_le f178_0.lt lo_b180)) nin0))
  have f187 := ((f178_2.ext E180).keep K182 (ninS (Nat.ne_of_lt (Nat.lt_of_lt_of_le f178_0.lt lo_b180)) nin0))
  have f188 := ((f178_3.ext E180).keep K182 (ninS (Nat.ne_of_lt (Nat.lt_of_lt_of_le f178_0.lt lo_b180)) nin0))
  have f189 := ((f178_4.ext E180).keep K182 (ninS (Nat.ne_of_lt (Nat.lt_of_lt_of_le f178_0.lt lo_b180)) nin0))
  obtain ⟨cq184, kq184, q184a, q184b, q184c⟩ := isOf hZ rfl f185
  -- pc 120: com/example/armor_for_retries/armorforretries/bench/Tally.plus
  obtain ⟨_, _, ⟨T184, L184, k184, n184⟩, -, X184, ⟨Lc184, hQ184, l184, y184, z184⟩, st184⟩ := X182.virtualBack hx (y := y4) (z := y4) hown (mvT hZ (W 46 rfl)) (mvT hZ (W 47 rfl)) (notFace_of_selects (args := #[]) (mvT hZ (W 49 rfl))) (mvT hZ (W 49 rfl)) (mvT hZ (W 48 rfl)) (by decide) (backOf (W := 0) (rmplusR l Z a0 G1 hG [] b176 b180 q0 q4 q2 q1 (q4 ^^^ (-1 : Int64)) q3 b166 (.ref b171) T182.heap n0 Z183 O183 f185 f186 f187 f188 f189 f182_0 f182_1 f182_2 f182_3 f182_4 rfl) hZ (W 50 rfl) (W 32 rfl) (by decide) (by decide)) q184a q184c (g := (mkF m 120 #[.val (.long q0), .second, .val (.long q1), .second, .val (.long q2), .second, .val (.long q3), .second, .val (.long q4), .second, .val (.int p5), .val (.ref b156), .val (.ref b161), .val (.ref b166), .val (.ref b171), .val (.ref b176), .val (.ref b180), .unset, .unset] [(.ref b180), (.ref b176)])) rfl (by rw [hml]; rfl) (Steps.refl _) (argsL := [(.ref b180)]) (rest := []) (lenOf pd__Lcom_example_armor_for_retries_armorforretries_bench_Tally__Lcom_example_armor_for_retries_armorforretries_bench_Tally_ rfl) rfl (by show 2 * 0 + _ ≤ _; exact Nat.le_of_eq rfl) (hb hby at_120) (fun _ _ => ⟨rfl, rfl, (by decide : 8 + 1 ≤ _), (by decide : 20 + 4 ≤ _)⟩)
  dsimp only [Pt.U, Pt.locs, Pt.cells, Pt.slots] at X184 l184 y184 z184 st184 hQ184
  subst l184 y184 z184
  obtain ⟨b_184, rfl, N184q, K184, f184_0, f184_1, f184_2, f184_3, f184_4⟩ := hQ184
  have N184 := Fr.app N182 N184q
  have Z190 : n0 ≤ T184.heap.size := Nat.le_trans Z183 K184.1
  have K0_190 : Keep h0 T184.heap [] := K0_183.trans K184 all0
  have O190 : Old Z n0 T184.heap := O183.keep K184 all0
  have lo_b_184 : T182.heap.size ≤ b_184 := f184_0
  have g_b_184 : n0 ≤ b_184 := Nat.le_trans Z183 lo_b_184
  have l0_b_184 : h0.size ≤ b_184 := Nat.le_trans K0_183.1 lo_b_184
  obtain ⟨cq191, kq191, q191a, q191b, q191c⟩ := isOf hZ rfl f184_1
  -- pc 143: com/example/armor_for_retries/armorforretries/bench/Tally.created
  obtain ⟨_, _, ⟨T191, L191, k191, n191⟩, -, X191, ⟨Lc191, hQ191, l191, y191, z191⟩, st191⟩ := X184.virtualBack hx (y := y1) (z := y1) hown (mvT hZ (W 53 rfl)) (mvT hZ (W 54 rfl)) (notFace_of_selects (args := #[]) (mvT hZ (W 56 rfl))) (mvT hZ (W 56 rfl)) (mvT hZ (W 55 rfl)) (by decide) (backOf (W := 0) (rmG_created l Z a0 G1 hG [] b_184 (q0 + q1) T184.heap n0 Z190 O190 f184_2) hZ (W 57 rfl) (W 32 rfl) (by decide) (by decide)) q191a q191c (g := (mkF m 143 #[.val (.long q0), .second, .val (.long q1), .second, .val (.long q2), .second, .val (.long q3), .second, .val (.long q4), .second, .val (.int p5), .val (.ref b156), .val (.ref b161), .val (.ref b166), .val (.ref b171), .val (.ref b176), .val (.ref b180), .val (.ref b_184), .val (.ref b166)] [(.ref b_184)])) rfl (by rw [hml]; rfl) (Steps.refl _) (argsL := []) (rest := []) (lenOf pd___J rfl) rfl (by show 2 * 0 + _ ≤ _; exact Nat.le_of_eq rfl) (hb hby at_143) (fun _ _ => ⟨rfl, rfl, (by decide : 9 + 0 ≤ _), (by decide : 24 + 0 ≤ _)⟩)
  dsimp only [Pt.U, Pt.locs, Pt.cells, Pt.slots] at X191 l191 y191 z191 st191 hQ191
  subst l191 y191 z191
  obtain ⟨rfl, N191q, eq191⟩ := hQ191
  have N191 := Fr.app N184 N191q
  obtain ⟨cq192, kq192, q192a, q192b, q192c⟩ := isOf hZ eq191 f184_1
  -- pc 155: com/example/armor_for_retries/armorforretries/bench/Tally.errors
  obtain ⟨_, _, ⟨T192, L192, k192, n192⟩, -, X192, ⟨Lc192, hQ192, l192, y192, z192⟩, st192⟩ := X191.virtualBack hx (y := y2) (z := y2) hown (mvT hZ (W 58 rfl)) (mvT hZ (W 59 rfl)) (notFace_of_selects (args := #[]) (mvT hZ (W 61 rfl))) (mvT hZ (W 61 rfl)) (mvT hZ (W 60 rfl)) (by decide) (backOf (W := 0) (rmG_errors l Z a0 G1 hG [] b_184 (q2 + q3) T184.heap n0 Z190 O190 f184_3) hZ (W 62 rfl) (W 32 rfl) (by decide) (by decide)) q192a q192c (g := (mkF m 155 #[.val (.long q0), .second, .val (.long q1), .second, .val (.long q2), .second, .val (.long q3), .second, .val (.long q4), .second, .val (.int p5), .val (.ref b156), .val (.ref b161), .val (.ref b166), .val (.ref b171), .val (.ref b176), .val (.ref b180), .val (.ref b_184), .val (.ref b166)] [(.ref b_184)])) rfl (by rw [hml]; rfl) (Steps.refl _) (argsL := []) (rest := []) (lenOf pd___J rfl) rfl (by show 2 * 0 + _ ≤ _; exact Nat.le_of_eq rfl) (hb hby at_155) (fun _ _ => ⟨rfl, eq191, (by decide : 9 + 0 ≤ _), (by decide : 24 + 0 ≤ _)⟩)
  dsimp only [Pt.U, Pt.locs, Pt.cells, Pt.slots] at X192 l192 y192 z192 st192 hQ192
  subst l192 y192 z192
  obtain ⟨rfl, N192q, eq192⟩ := hQ192
  have N192 := Fr.app N191 N192q
  obtain ⟨cq193, kq193, q193a, q193b, q193c⟩ := isOf hZ eq192 f184_1
  -- pc 169: com/example/armor_for_retries/armorforretries/bench/Tally.firstError
  obtain ⟨_, _, ⟨T193, L193, k193, n193⟩, -, X193, ⟨Lc193, hQ193, l193, y193, z193⟩, st193⟩ := X192.virtualBack hx (y := y3) (z := y3) hown (mvT hZ (W 63 rfl)) (mvT hZ (W 64 rfl)) (notFace_of_selects (args := #[]) (mvT hZ (W 66 rfl))) (mvT hZ (W 66 rfl)) (mvT hZ (W 65 rfl)) (by decide) (backOf (W := 0) (rmG_firstError l Z a0 G1 hG [] b_184 (.ref b166) T184.heap n0 Z190 O190 f184_4 rfl) hZ (W 67 rfl) (W 32 rfl) (by decide) (by decide)) q193a q193c (g := (mkF m 169 #[.val (.long q0), .second, .val (.long q1), .second, .val (.long q2), .second, .val (.long q3), .second, .val (.long q4), .second, .val (.int p5), .val (.ref b156), .val (.ref b161), .val (.ref b166), .val (.ref b171), .val (.ref b176), .val (.ref b180), .val (.ref b_184), .val (.ref b166)] [(.ref b_184)])) rfl (by rw [hml]; rfl) (Steps.refl _) (argsL := []) (rest := []) (lenOf pd___Ljava_lang_String_ rfl) rfl (by show 2 * 0 + _ ≤ _; exact Nat.le_of_eq rfl) (hb hby at_169) (fun _ _ => ⟨rfl, eq192, (by decide : 9 + 0 ≤ _), (by decide : 24 + 0 ≤ _)⟩)
  dsimp only [Pt.U, Pt.locs, Pt.cells, Pt.slots] at X193 l193 y193 z193 st193 hQ193
  subst l193 y193 z193
  obtain ⟨rfl, N193q, eq193⟩ := hQ193
  have N193 := Fr.app N192 N193q
  obtain ⟨fs, hr, hrun, hended, hW, hsame⟩ := X193.leave (v := some (.int (1 : Int32))) (fun h => by rw [Bd.returns] at h; cases h)
  refine ⟨_, _, pre0 _ ?_, hrun, hended, _, _, rfl, ?_, ⟨_, rfl⟩, hW, hsame.mono (Nat.le_of_ble_eq_true rfl) (Nat.le_of_ble_eq_true rfl)⟩
  · show Steps p.tables e below (s₁.setTop (mkF m 0 #[.val (.long q0), .second, .val (.long q1), .second, .val (.long q2), .second, .val (.long q3), .second, .val (.long q4), .second, .val (.int p5), .unset, .unset, .unset, .unset, .unset, .unset, .unset, .unset] [])) _
    refine XS.iconst X0.here hx rfl (hb hby at_0) ?_
    show Steps p.tables e below (s₁.setTop (mkF m 1 #[.val (.long q0), .second, .val (.long q1), .second, .val (.long q2), .second, .val (.long q3), .second, .val (.long q4), .second, .val (.int p5), .unset, .unset, .unset, .unset, .unset, .unset, .unset, .unset] [(.int (1 : Int32))])) _
    refine st156 _ ?_
    show Steps p.tables e below (T156.setTop (mkF m 3 #[.val (.long q0), .second, .val (.long q1), .second, .val (.long q2), .second, .val (.long q3), .second, .val (.long q4), .second, .val (.int p5), .unset, .unset, .unset, .unset, .unset, .unset, .unset, .unset] [(.ref b156)])) _
    refine XS.dup X156.here hx rfl (hb hby at_3) rfl rfl ?_
    show Steps p.tables e below (T156.setTop (mkF m 4 #[.val (.long q0), .second, .val (.long q1), .second, .val (.long q2), .second, .val (.long q3), .second, .val (.long q4), .second, .val (.int p5), .unset, .unset, .unset, .unset, .unset, .unset, .unset, .unset] [(.ref b156), (.ref b156)])) _
    refine XS.iconst X156.here hx rfl (hb hby at_4) ?_
    show Steps p.tables e below (T156.setTop (mkF m 5 #[.val (.long q0), .second, .val (.long q1), .second, .val (.long q2), .second, .val (.long q3), .second, .val (.long q4), .second, .val (.int p5), .unset, .unset, .unset, .unset, .unset, .unset, .unset, .unset] [(.int (0 : Int32)), (.ref b156), (.ref b156)])) _
    refine XS.iload X156.here hx rfl (hb hby at_5) rfl ?_
    show Steps p.tables e below (T156.setTop (mkF m 7 #[.val (.long q0), .second, .val (.long q1), .second, .val (.long q2), .second, .val (.long q3), .second, .val (.long q4), .second, .val (.int p5), .unset, .unset, .unset, .unset, .unset, .unset, .unset, .unset] [(.int p5), (.int (0 : Int32)), (.ref b156), (.ref b156)])) _
    refine XS.bipush X156.here hx rfl (hb hby at_7) ?_
    show Steps p.tables e below (T156.setTop (mkF m 9 #[.val (.long q0), .second, .val (.long q1), .second, .val (.long q2), .second, .val (.long q3), .second, .val (.long q4), .second, .val (.int p5), .unset, .unset, .unset, .unset, .unset, .unset, .unset, .unset] [(.int (8 : Int32)), (.int p5), (.int (0 : Int32)), (.ref b156), (.ref b156)])) _
    refine XS.iushr X156.here hx rfl (hb hby at_9) rfl ?_
    show Steps p.tables e below (T156.setTop (mkF m 10 #[.val (.long q0), .second, .val (.long q1), .second, .val (.long q2), .second, .val (.long q3), .second, .val (.long q4), .second, .val (.int p5), .unset, .unset, .unset, .unset, .unset, .unset, .unset, .unset] [(.int ((p5.toUInt32 >>> ((8 : Int32) &&& 31).toUInt32).toInt32)), (.int (0 : Int32)), (.ref b156), (.ref b156)])) _
    refine XS.sipush X156.here hx rfl (hb hby at_10) ?_
    show Steps p.tables e below (T156.setTop (mkF m 13 #[.val (.long q0), .second, .val (.long q1), .second, .val (.long q2), .second, .val (.long q3), .second, .val (.long q4), .second, .val (.int p5), .unset, .unset, .unset, .unset, .unset, .unset, .unset, .unset] [(.int (255 : Int32)), (.int ((p5.toUInt32 >>> ((8 : Int32) &&& 31).toUInt32).toInt32)), (.int (0 : Int32)), (.ref b156), (.ref b156)])) _
    refine XS.iand X156.here hx rfl (hb hby at_13) rfl ?_
    show Steps p.tables e below (T156.setTop (mkF m 14 #[.val (.long q0), .second, .val (.long q1), .second, .val (.long q2), .second, .val (.long q3), .second, .val (.long q4), .second, .val (.int p5), .unset, .unset, .unset, .unset, .unset, .unset, .unset, .unset] [(.int (((p5.toUInt32 >>> ((8 : Int32) &&& 31).toUInt32).toInt32) &&& (255 : Int32))), (.int (0 : Int32)), (.ref b156), (.ref b156)])) _
    refine XS.i2c X156.here hx rfl (hb hby at_14) rfl ?_
    show Steps p.tables e below (T156.setTop (mkF m 15 #[.val (.long q0), .second, .val (.long q1), .second, .val (.long q2), .second, .val (.long q3), .second, .val (.long q4), .second, .val (.int p5), .unset, .unset, .unset, .unset, .unset, .unset, .unset, .unset] [(.int ((((p5.toUInt32 >>> ((8 : Int32) &&& 31).toUInt32).toInt32) &&& (255 : Int32)).toUInt32.toUInt16.toUInt32.toInt32)), (.int (0 : Int32)), (.ref b156), (.ref b156)])) _
    refine st159 _ ?_
    show Steps p.tables e below (T159.setTop (mkF m 16 #[.val (.long q0), .second, .val (.long q1), .second, .val (.long q2), .second, .val (.long q3), .second, .val (.long q4), .second, .val (.int p5), .unset, .unset, .unset, .unset, .unset, .unset, .unset, .unset] [(.ref b156)])) _
    refine XS.astore X159.here hx rfl (hb hby at_16) rfl rfl (l' := #[.val (.long q0), .second, .val (.long q1), .second, .val (.long q2), .second, .val (.long q3), .second, .val (.long q4), .second, .val (.int p5), .val (.ref b156), .unset, .unset, .unset, .unset, .unset, .unset, .unset]) rfl ?_
    show Steps p.tables e below (T159.setTop (mkF m 18 #[.val (.long q0), .second, .val (.long q1), .second, .val (.long q2), .second, .val (.long q3), .second, .val (.long q4), .second, .val (.int p5), .val (.ref b156), .unset, .unset, .unset, .unset, .unset, .unset, .unset] [])) _
    refine XS.iconst X159.here hx rfl (hb hby at_18) ?_
    show Steps p.tables e below (T159.setTop (mkF m 19 #[.val (.long q0), .second, .val (.long q1), .second, .val (.long q2), .second, .val (.long q3), .second, .val (.long q4), .second, .val (.int p5), .val (.ref b156), .unset, .unset, .unset, .unset, .unset, .unset, .unset] [(.int (1 : Int32))])) _
    refine st161 _ ?_
    show Steps p.tables e below (T161.setTop (mkF m 21 #[.val (.long q0), .second, .val (.long q1), .second, .val (.long q2), .second, .val (.long q3), .second, .val (.long q4), .second, .val (.int p5), .val (.ref b156), .unset, .unset, .unset, .unset, .unset, .unset, .unset] [(.ref b161)])) _
    refine XS.dup X161.here hx rfl (hb hby at_21) rfl rfl ?_
    show Steps p.tables e below (T161.setTop (mkF m 22 #[.val (.long q0), .second, .val (.long q1), .second, .val (.long q2), .second, .val (.long q3), .second, .val (.long q4), .second, .val (.int p5), .val (.ref b156), .unset, .unset, .unset, .unset, .unset, .unset, .unset] [(.ref b161), (.ref b161)])) _
    refine XS.iconst X161.here hx rfl (hb hby at_22) ?_
    show Steps p.tables e below (T161.setTop (mkF m 23 #[.val (.long q0), .second, .val (.long q1), .second, .val (.long q2), .second, .val (.long q3), .second, .val (.long q4), .second, .val (.int p5), .val (.ref b156), .unset, .unset, .unset, .unset, .unset, .unset, .unset] [(.int (0 : Int32)), (.ref b161), (.ref b161)])) _
    refine XS.iload X161.here hx rfl (hb hby at_23) rfl ?_
    show Steps p.tables e below (T161.setTop (mkF m 25 #[.val (.long q0), .second, .val (.long q1), .second, .val (.long q2), .second, .val (.long q3), .second, .val (.long q4), .second, .val (.int p5), .val (.ref b156), .unset, .unset, .unset, .unset, .unset, .unset, .unset] [(.int p5), (.int (0 : Int32)), (.ref b161), (.ref b161)])) _
    refine XS.bipush X161.here hx rfl (hb hby at_25) ?_
    show Steps p.tables e below (T161.setTop (mkF m 27 #[.val (.long q0), .second, .val (.long q1), .second, .val (.long q2), .second, .val (.long q3), .second, .val (.long q4), .second, .val (.int p5), .val (.ref b156), .unset, .unset, .unset, .unset, .unset, .unset, .unset] [(.int (16 : Int32)), (.int p5), (.int (0 : Int32)), (.ref b161), (.ref b161)])) _
    refine XS.iushr X161.here hx rfl (hb hby at_27) rfl ?_
    show Steps p.tables e below (T161.setTop (mkF m 28 #[.val (.long q0), .second, .val (.long q1), .second, .val (.long q2), .second, .val (.long q3), .second, .val (.long q4), .second, .val (.int p5), .val (.ref b156), .unset, .unset, .unset, .unset, .unset, .unset, .unset] [(.int ((p5.toUInt32 >>> ((16 : Int32) &&& 31).toUInt32).toInt32)), (.int (0 : Int32)), (.ref b161), (.ref b161)])) _
    refine XS.sipush X161.here hx rfl (hb hby at_28) ?_
    show Steps p.tables e below (T161.setTop (mkF m 31 #[.val (.long q0), .second, .val (.long q1), .second, .val (.long q2), .second, .val (.long q3), .second, .val (.long q4), .second, .val (.int p5), .val (.ref b156), .unset, .unset, .unset, .unset, .unset, .unset, .unset] [(.int (255 : Int32)), (.int ((p5.toUInt32 >>> ((16 : Int32) &&& 31).toUInt32).toInt32)), (.int (0 : Int32)), (.ref b161), (.ref b161)])) _
    refine XS.iand X161.here hx rfl (hb hby at_31) rfl ?_
    show Steps p.tables e below (T161.setTop (mkF m 32 #[.val (.long q0), .second, .val (.long q1), .second, .val (.long q2), .second, .val (.long q3), .second, .val (.long q4), .second, .val (.int p5), .val (.ref b156), .unset, .unset, .unset, .unset, .unset, .unset, .unset] [(.int (((p5.toUInt32 >>> ((16 : Int32) &&& 31).toUInt32).toInt32) &&& (255 : Int32))), (.int (0 : Int32)), (.ref b161), (.ref b161)])) _
    refine XS.i2c X161.here hx rfl (hb hby at_32) rfl ?_
    show Steps p.tables e below (T161.setTop (mkF m 33 #[.val (.long q0), .second, .val (.long q1), .second, .val (.long q2), .second, .val (.long q3), .second, .val (.long q4), .second, .val (.int p5), .val (.ref b156), .unset, .unset, .unset, .unset, .unset, .unset, .unset] [(.int ((((p5.toUInt32 >>> ((16 : Int32) &&& 31).toUInt32).toInt32) &&& (255 : Int32)).toUInt32.toUInt16.toUInt32.toInt32)), (.int (0 : Int32)), (.ref b161), (.ref b161)])) _
    refine st164 _ ?_
    show Steps p.tables e below (T164.setTop (mkF m 34 #[.val (.long q0), .second, .val (.long q1), .second, .val (.long q2), .second, .val (.long q3), .second, .val (.long q4), .second, .val (.int p5), .val (.ref b156), .unset, .unset, .unset, .unset, .unset, .unset, .unset] [(.ref b161)])) _
    refine XS.astore X164.here hx rfl (hb hby at_34) rfl rfl (l' := #[.val (.long q0), .second, .val (.long q1), .second, .val (.long q2), .second, .val (.long q3), .second, .val (.long q4), .second, .val (.int p5), .val (.ref b156), .val (.ref b161), .unset, .unset, .unset, .unset, .unset, .unset]) rfl ?_
    show Steps p.tables e below (T164.setTop (mkF m 36 #[.val (.long q0), .second, .val (.long q1), .second, .val (.long q2), .second, .val (.long q3), .second, .val (.long q4), .second, .val (.int p5), .val (.ref b156), .val (.ref b161), .unset, .unset, .unset, .unset, .unset, .unset] [])) _
    refine XS.iload X164.here hx rfl (hb hby at_36) rfl ?_
    show Steps p.tables e below (T164.setTop (mkF m 38 #[.val (.long q0), .second, .val (.long q1), .second, .val (.long q2), .second, .val (.long q3), .second, .val (.long q4), .second, .val (.int p5), .val (.ref b156), .val (.ref b161), .unset, .unset, .unset, .unset, .unset, .unset] [(.int p5)])) _
    refine XS.iconst X164.here hx rfl (hb hby at_38) ?_
    show Steps p.tables e below (T164.setTop (mkF m 39 #[.val (.long q0), .second, .val (.long q1), .second, .val (.long q2), .second, .val (.long q3), .second, .val (.long q4), .second, .val (.int p5), .val (.ref b156), .val (.ref b161), .unset, .unset, .unset, .unset, .unset, .unset] [(.int (1 : Int32)), (.int p5)])) _
    refine XS.iand X164.here hx rfl (hb hby at_39) rfl ?_
    show Steps p.tables e below (T164.setTop (mkF m 40 #[.val (.long q0), .second, .val (.long q1), .second, .val (.long q2), .second, .val (.long q3), .second, .val (.long q4), .second, .val (.int p5), .val (.ref b156), .val (.ref b161), .unset, .unset, .unset, .unset, .unset, .unset] [(.int (p5 &&& (1 : Int32)))])) _
    refine XS.ifNo X164.here hx rfl (hb hby at_40) rfl ((if0 _ _).trans (feq (hc40 : ¬ ((p5 &&& (1 : Int32)) = (0 : Int32)))).1) ?_
    show Steps p.tables e below (T164.setTop (mkF m 43 #[.val (.long q0), .second, .val (.long q1), .second, .val (.long q2), .second, .val (.long q3), .second, .val (.long q4), .second, .val (.int p5), .val (.ref b156), .val (.ref b161), .unset, .unset, .unset, .unset, .unset, .unset] [])) _
    refine st166 _ ?_
    show Steps p.tables e below (T166.setTop (mkF m 46 #[.val (.long q0), .second, .val (.long q1), .second, .val (.long q2), .second, .val (.long q3), .second, .val (.long q4), .second, .val (.int p5), .val (.ref b156), .val (.ref b161), .unset, .unset, .unset, .unset, .unset, .unset] [(.ref b166)])) _
    refine XS.dup X166.here hx rfl (hb hby at_46) rfl rfl ?_
    show Steps p.tables e below (T166.setTop (mkF m 47 #[.val (.long q0), .second, .val (.long q1), .second, .val (.long q2), .second, .val (.long q3), .second, .val (.long q4), .second, .val (.int p5), .val (.ref b156), .val (.ref b161), .unset, .unset, .unset, .unset, .unset, .unset] [(.ref b166), (.ref b166)])) _
    refine XS.aload X166.here hx rfl (hb hby at_47) rfl rfl ?_
    show Steps p.tables e below (T166.setTop (mkF m 49 #[.val (.long q0), .second, .val (.long q1), .second, .val (.long q2), .second, .val (.long q3), .second, .val (.long q4), .second, .val (.int p5), .val (.ref b156), .val (.ref b161), .unset, .unset, .unset, .unset, .unset, .unset] [(.ref b156), (.ref b166), (.ref b166)])) _
    refine st168.trans ?_
    show Steps p.tables e below (T168.setTop (mkF m 52 #[.val (.long q0), .second, .val (.long q1), .second, .val (.long q2), .second, .val (.long q3), .second, .val (.long q4), .second, .val (.int p5), .val (.ref b156), .val (.ref b161), .unset, .unset, .unset, .unset, .unset, .unset] [(.ref b166)])) _
    refine XS.goto X168.here hx rfl (pc0 := 52) (pc' := 56) rfl (hb hby at_52) (by decide) (by decide) ?_
    show Steps p.tables e below (T168.setTop (mkF m 56 #[.val (.long q0), .second, .val (.long q1), .second, .val (.long q2), .second, .val (.long q3), .second, .val (.long q4), .second, .val (.int p5), .val (.ref b156), .val (.ref b161), .unset, .unset, .unset, .unset, .unset, .unset] [(.ref b166)])) _
    refine XS.astore X168.here hx rfl (hb hby at_56) rfl rfl (l' := #[.val (.long q0), .second, .val (.long q1), .second, .val (.long q2), .second, .val (.long q3), .second, .val (.long q4), .second, .val (.int p5), .val (.ref b156), .val (.ref b161), .val (.ref b166), .unset, .unset, .unset, .unset, .unset]) rfl ?_
    show Steps p.tables e below (T168.setTop (mkF m 58 #[.val (.long q0), .second, .val (.long q1), .second, .val (.long q2), .second, .val (.long q3), .second, .val (.long q4), .second, .val (.int p5), .val (.ref b156), .val (.ref b161), .val (.ref b166), .unset, .unset, .unset, .unset, .unset] [])) _
    refine XS.iload X168.here hx rfl (hb hby at_58) rfl ?_
    show Steps p.tables e below (T168.setTop (mkF m 60 #[.val (.long q0), .second, .val (.long q1), .second, .val (.long q2), .second, .val (.long q3), .second, .val (.long q4), .second, .val (.int p5), .val (.ref b156), .val (.ref b161), .val (.ref b166), .unset, .unset, .unset, .unset, .unset] [(.int p5)])) _
    refine XS.iconst X168.here hx rfl (hb hby at_60) ?_
    show Steps p.tables e below (T168.setTop (mkF m 61 #[.val (.long q0), .second, .val (.long q1), .second, .val (.long q2), .second, .val (.long q3), .second, .val (.long q4), .second, .val (.int p5), .val (.ref b156), .val (.ref b161), .val (.ref b166), .unset, .unset, .unset, .unset, .unset] [(.int (2 : Int32)), (.int p5)])) _
    refine XS.iand X168.here hx rfl (hb hby at_61) rfl ?_
    show Steps p.tables e below (T168.setTop (mkF m 62 #[.val (.long q0), .second, .val (.long q1), .second, .val (.long q2), .second, .val (.long q3), .second, .val (.long q4), .second, .val (.int p5), .val (.ref b156), .val (.ref b161), .val (.ref b166), .unset, .unset, .unset, .unset, .unset] [(.int (p5 &&& (2 : Int32)))])) _
    refine XS.ifNo X168.here hx rfl (hb hby at_62) rfl ((if0 _ _).trans (feq (hc62 : ¬ ((p5 &&& (2 : Int32)) = (0 : Int32)))).1) ?_
    show Steps p.tables e below (T168.setTop (mkF m 65 #[.val (.long q0), .second, .val (.long q1), .second, .val (.long q2), .second, .val (.long q3), .second, .val (.long q4), .second, .val (.int p5), .val (.ref b156), .val (.ref b161), .val (.ref b166), .unset, .unset, .unset, .unset, .unset] [])) _
    refine st171 _ ?_
    show Steps p.tables e below (T171.setTop (mkF m 68 #[.val (.long q0), .second, .val (.long q1), .second, .val (.long q2), .second, .val (.long q3), .second, .val (.long q4), .second, .val (.int p5), .val (.ref b156), .val (.ref b161), .val (.ref b166), .unset, .unset, .unset, .unset, .unset] [(.ref b171)])) _
    refine XS.dup X171.here hx rfl (hb hby at_68) rfl rfl ?_
    show Steps p.tables e below (T171.setTop (mkF m 69 #[.val (.long q0), .second, .val (.long q1), .second, .val (.long q2), .second, .val (.long q3), .second, .val (.long q4), .second, .val (.int p5), .val (.ref b156), .val (.ref b161), .val (.ref b166), .unset, .unset, .unset, .unset, .unset] [(.ref b171), (.ref b171)])) _
    refine XS.aload X171.here hx rfl (hb hby at_69) rfl rfl ?_
    show Steps p.tables e below (T171.setTop (mkF m 71 #[.val (.long q0), .second, .val (.long q1), .second, .val (.long q2), .second, .val (.long q3), .second, .val (.long q4), .second, .val (.int p5), .val (.ref b156), .val (.ref b161), .val (.ref b166), .unset, .unset, .unset, .unset, .unset] [(.ref b161), (.ref b171), (.ref b171)])) _
    refine st173.trans ?_
    show Steps p.tables e below (T173.setTop (mkF m 74 #[.val (.long q0), .second, .val (.long q1), .second, .val (.long q2), .second, .val (.long q3), .second, .val (.long q4), .second, .val (.int p5), .val (.ref b156), .val (.ref b161), .val (.ref b166), .unset, .unset, .unset, .unset, .unset] [(.ref b171)])) _
    refine XS.goto X173.here hx rfl (pc0 := 74) (pc' := 78) rfl (hb hby at_74) (by decide) (by decide) ?_
    show Steps p.tables e below (T173.setTop (mkF m 78 #[.val (.long q0), .second, .val (.long q1), .second, .val (.long q2), .second, .val (.long q3), .second, .val (.long q4), .second, .val (.int p5), .val (.ref b156), .val (.ref b161), .val (.ref b166), .unset, .unset, .unset, .unset, .unset] [(.ref b171)])) _
    refine XS.astore X173.here hx rfl (hb hby at_78) rfl rfl (l' := #[.val (.long q0), .second, .val (.long q1), .second, .val (.long q2), .second, .val (.long q3), .second, .val (.long q4), .second, .val (.int p5), .val (.ref b156), .val (.ref b161), .val (.ref b166), .val (.ref b171), .unset, .unset, .unset, .unset]) rfl ?_
    show Steps p.tables e below (T173.setTop (mkF m 80 #[.val (.long q0), .second, .val (.long q1), .second, .val (.long q2), .second, .val (.long q3), .second, .val (.long q4), .second, .val (.int p5), .val (.ref b156), .val (.ref b161), .val (.ref b166), .val (.ref b171), .unset, .unset, .unset, .unset] [])) _
    refine st176 _ ?_
    show Steps p.tables e below (T176.setTop (mkF m 83 #[.val (.long q0), .second, .val (.long q1), .second, .val (.long q2), .second, .val (.long q3), .second, .val (.long q4), .second, .val (.int p5), .val (.ref b156), .val (.ref b161), .val (.ref b166), .val (.ref b171), .unset, .unset, .unset, .unset] [(.ref b176)])) _
    refine XS.dup X176.here hx rfl (hb hby at_83) rfl rfl ?_
    show Steps p.tables e below (T176.setTop (mkF m 84 #[.val (.long q0), .second, .val (.long q1), .second, .val (.long q2), .second, .val (.long q3), .second, .val (.long q4), .second, .val (.int p5), .val (.ref b156), .val (.ref b161), .val (.ref b166), .val (.ref b171), .unset, .unset, .unset, .unset] [(.ref b176), (.ref b176)])) _
    refine XS.lloadN X176.here hx rfl (hb hby at_84) rfl ?_
    show Steps p.tables e below (T176.setTop (mkF m 85 #[.val (.long q0), .second, .val (.long q1), .second, .val (.long q2), .second, .val (.long q3), .second, .val (.long q4), .second, .val (.int p5), .val (.ref b156), .val (.ref b161), .val (.ref b166), .val (.ref b171), .unset, .unset, .unset, .unset] [(.long q0), (.ref b176), (.ref b176)])) _
    refine XS.lload X176.here hx rfl (hb hby at_85) rfl ?_
    show Steps p.tables e below (T176.setTop (mkF m 87 #[.val (.long q0), .second, .val (.long q1), .second, .val (.long q2), .second, .val (.long q3), .second, .val (.long q4), .second, .val (.int p5), .val (.ref b156), .val (.ref b161), .val (.ref b166), .val (.ref b171), .unset, .unset, .unset, .unset] [(.long q4), (.long q0), (.ref b176), (.ref b176)])) _
    refine XS.lload X176.here hx rfl (hb hby at_87) rfl ?_
    show Steps p.tables e below (T176.setTop (mkF m 89 #[.val (.long q0), .second, .val (.long q1), .second, .val (.long q2), .second, .val (.long q3), .second, .val (.long q4), .second, .val (.int p5), .val (.ref b156), .val (.ref b161), .val (.ref b166), .val (.ref b171), .unset, .unset, .unset, .unset] [(.long q2), (.long q4), (.long q0), (.ref b176), (.ref b176)])) _
    refine XS.aload X176.here hx rfl (hb hby at_89) rfl rfl ?_
    show Steps p.tables e below (T176.setTop (mkF m 91 #[.val (.long q0), .second, .val (.long q1), .second, .val (.long q2), .second, .val (.long q3), .second, .val (.long q4), .second, .val (.int p5), .val (.ref b156), .val (.ref b161), .val (.ref b166), .val (.ref b171), .unset, .unset, .unset, .unset] [(.ref b166), (.long q2), (.long q4), (.long q0), (.ref b176), (.ref b176)])) _
    refine st178.trans ?_
    show Steps p.tables e below (T178.setTop (mkF m 94 #[.val (.long q0), .second, .val (.long q1), .second, .val (.long q2), .second, .val (.long q3), .second, .val (.long q4), .second, .val (.int p5), .val (.ref b156), .val (.ref b161), .val (.ref b166), .val (.ref b171), .unset, .unset, .unset, .unset] [(.ref b176)])) _
    refine XS.astore X178.here hx rfl (hb hby at_94) rfl rfl (l' := #[.val (.long q0), .second, .val (.long q1), .second, .val (.long q2), .second, .val (.long q3), .second, .val (.long q4), .second, .val (.int p5), .val (.ref b156), .val (.ref b161), .val (.ref b166), .val (.ref b171), .val (.ref b176), .unset, .unset, .unset]) rfl ?_
    show Steps p.tables e below (T178.setTop (mkF m 96 #[.val (.long q0), .second, .val (.long q1), .second, .val (.long q2), .second, .val (.long q3), .second, .val (.long q4), .second, .val (.int p5), .val (.ref b156), .val (.ref b161), .val (.ref b166), .val (.ref b171), .val (.ref b176), .unset, .unset, .unset] [])) _
    refine st180 _ ?_
    show Steps p.tables e below (T180.setTop (mkF m 99 #[.val (.long q0), .second, .val (.long q1), .second, .val (.long q2), .second, .val (.long q3), .second, .val (.long q4), .second, .val (.int p5), .val (.ref b156), .val (.ref b161), .val (.ref b166), .val (.ref b171), .val (.ref b176), .unset, .unset, .unset] [(.ref b180)])) _
    refine XS.dup X180.here hx rfl (hb hby at_99) rfl rfl ?_
    show Steps p.tables e below (T180.setTop (mkF m 100 #[.val (.long q0), .second, .val (.long q1), .second, .val (.long q2), .second, .val (.long q3), .second, .val (.long q4), .second, .val (.int p5), .val (.ref b156), .val (.ref b161), .val (.ref b166), .val (.ref b171), .val (.ref b176), .unset, .unset, .unset] [(.ref b180), (.ref b180)])) _
    refine XS.lloadN X180.here hx rfl (hb hby at_100) rfl ?_
    show Steps p.tables e below (T180.setTop (mkF m 101 #[.val (.long q0), .second, .val (.long q1), .second, .val (.long q2), .second, .val (.long q3), .second, .val (.long q4), .second, .val (.int p5), .val (.ref b156), .val (.ref b161), .val (.ref b166), .val (.ref b171), .val (.ref b176), .unset, .unset, .unset] [(.long q1), (.ref b180), (.ref b180)])) _
    refine XS.lload X180.here hx rfl (hb hby at_101) rfl ?_
    show Steps p.tables e below (T180.setTop (mkF m 103 #[.val (.long q0), .second, .val (.long q1), .second, .val (.long q2), .second, .val (.long q3), .second, .val (.long q4), .second, .val (.int p5), .val (.ref b156), .val (.ref b161), .val (.ref b166), .val (.ref b171), .val (.ref b176), .unset, .unset, .unset] [(.long q4), (.long q1), (.ref b180), (.ref b180)])) _
    refine X180.ldc2Long hx hown (mvT hZ (W 45 rfl)) (g := (mkF m 103 #[.val (.long q0), .second, .val (.long q1), .second, .val (.long q2), .second, .val (.long q3), .second, .val (.long q4), .second, .val (.int p5), .val (.ref b156), .val (.ref b161), .val (.ref b166), .val (.ref b171), .val (.ref b176), .unset, .unset, .unset] [(.long q4), (.long q1), (.ref b180), (.ref b180)])) rfl (hb hby at_103) _ ?_
    show Steps p.tables e below (T180.setTop (mkF m 106 #[.val (.long q0), .second, .val (.long q1), .second, .val (.long q2), .second, .val (.long q3), .second, .val (.long q4), .second, .val (.int p5), .val (.ref b156), .val (.ref b161), .val (.ref b166), .val (.ref b171), .val (.ref b176), .unset, .unset, .unset] [(.long (-1 : Int64)), (.long q4), (.long q1), (.ref b180), (.ref b180)])) _
    refine XS.lxor X180.here hx rfl (hb hby at_106) rfl ?_
    show Steps p.tables e below (T180.setTop (mkF m 107 #[.val (.long q0), .second, .val (.long q1), .second, .val (.long q2), .second, .val (.long q3), .second, .val (.long q4), .second, .val (.int p5), .val (.ref b156), .val (.ref b161), .val (.ref b166), .val (.ref b171), .val (.ref b176), .unset, .unset, .unset] [(.long (q4 ^^^ (-1 : Int64))), (.long q1), (.ref b180), (.ref b180)])) _
    refine XS.lload X180.here hx rfl (hb hby at_107) rfl ?_
    show Steps p.tables e below (T180.setTop (mkF m 109 #[.val (.long q0), .second, .val (.long q1), .second, .val (.long q2), .second, .val (.long q3), .second, .val (.long q4), .second, .val (.int p5), .val (.ref b156), .val (.ref b161), .val (.ref b166), .val (.ref b171), .val (.ref b176), .unset, .unset, .unset] [(.long q3), (.long (q4 ^^^ (-1 : Int64))), (.long q1), (.ref b180), (.ref b180)])) _
    refine XS.aload X180.here hx rfl (hb hby at_109) rfl rfl ?_
    show Steps p.tables e below (T180.setTop (mkF m 111 #[.val (.long q0), .second, .val (.long q1), .second, .val (.long q2), .second, .val (.long q3), .second, .val (.long q4), .second, .val (.int p5), .val (.ref b156), .val (.ref b161), .val (.ref b166), .val (.ref b171), .val (.ref b176), .unset, .unset, .unset] [(.ref b171), (.long q3), (.long (q4 ^^^ (-1 : Int64))), (.long q1), (.ref b180), (.ref b180)])) _
    refine st182.trans ?_
    show Steps p.tables e below (T182.setTop (mkF m 114 #[.val (.long q0), .second, .val (.long q1), .second, .val (.long q2), .second, .val (.long q3), .second, .val (.long q4), .second, .val (.int p5), .val (.ref b156), .val (.ref b161), .val (.ref b166), .val (.ref b171), .val (.ref b176), .unset, .unset, .unset] [(.ref b180)])) _
    refine XS.astore X182.here hx rfl (hb hby at_114) rfl rfl (l' := #[.val (.long q0), .second, .val (.long q1), .second, .val (.long q2), .second, .val (.long q3), .second, .val (.long q4), .second, .val (.int p5), .val (.ref b156), .val (.ref b161), .val (.ref b166), .val (.ref b171), .val (.ref b176), .val (.ref b180), .unset, .unset]) rfl ?_
    show Steps p.tables e below (T182.setTop (mkF m 116 #[.val (.long q0), .second, .val (.long q1), .second, .val (.long q2), .second, .val (.long q3), .second, .val (.long q4), .second, .val (.int p5), .val (.ref b156), .val (.ref b161), .val (.ref b166), .val (.ref b171), .val (.ref b176), .val (.ref b180), .unset, .unset] [])) _
    refine XS.aload X182.here hx rfl (hb hby at_116) rfl rfl ?_
    show Steps p.tables e below (T182.setTop (mkF m 118 #[.val (.long q0), .second, .val (.long q1), .second, .val (.long q2), .second, .val (.long q3), .second, .val (.long q4), .second, .val (.int p5), .val (.ref b156), .val (.ref b161), .val (.ref b166), .val (.ref b171), .val (.ref b176), .val (.ref b180), .unset, .unset] [(.ref b176)])) _
    refine XS.aload X182.here hx rfl (hb hby at_118) rfl rfl ?_
    show Steps p.tables e below (T182.setTop (mkF m 120 #[.val (.long q0), .second, .val (.long q1), .second, .val (.long q2), .second, .val (.long q3), .second, .val (.long q4), .second, .val (.int p5), .val (.ref b156), .val (.ref b161), .val (.ref b166), .val (.ref b171), .val (.ref b176), .val (.ref b180), .unset, .unset] [(.ref b180), (.ref b176)])) _
    refine st184.trans ?_
    show Steps p.tables e below (T184.setTop (mkF m 123 #[.val (.long q0), .second, .val (.long q1), .second, .val (.long q2), .second, .val (.long q3), .second, .val (.long q4), .second, .val (.int p5), .val (.ref b156), .val (.ref b161), .val (.ref b166), .val (.ref b171), .val (.ref b176), .val (.ref b180), .unset, .unset] [(.ref b_184)])) _
    refine XS.astore X184.here hx rfl (hb hby at_123) rfl rfl (l' := #[.val (.long q0), .second, .val (.long q1), .second, .val (.long q2), .second, .val (.long q3), .second, .val (.long q4), .second, .val (.int p5), .val (.ref b156), .val (.ref b161), .val (.ref b166), .val (.ref b171), .val (.ref b176), .val (.ref b180), .val (.ref b_184), .unset]) rfl ?_
    show Steps p.tables e below (T184.setTop (mkF m 125 #[.val (.long q0), .second, .val (.long q1), .second, .val (.long q2), .second, .val (.long q3), .second, .val (.long q4), .second, .val (.int p5), .val (.ref b156), .val (.ref b161), .val (.ref b166), .val (.ref b171), .val (.ref b176), .val (.ref b180), .val (.ref b_184), .unset] [])) _
    refine XS.aload X184.here hx rfl (hb hby at_125) rfl rfl ?_
    show Steps p.tables e below (T184.setTop (mkF m 127 #[.val (.long q0), .second, .val (.long q1), .second, .val (.long q2), .second, .val (.long q3), .second, .val (.long q4), .second, .val (.int p5), .val (.ref b156), .val (.ref b161), .val (.ref b166), .val (.ref b171), .val (.ref b176), .val (.ref b180), .val (.ref b_184), .unset] [(.ref b166)])) _
    refine XS.ifnullNo X184.here hx rfl (hb hby at_127) rfl ?_
    show Steps p.tables e below (T184.setTop (mkF m 130 #[.val (.long q0), .second, .val (.long q1), .second, .val (.long q2), .second, .val (.long q3), .second, .val (.long q4), .second, .val (.int p5), .val (.ref b156), .val (.ref b161), .val (.ref b166), .val (.ref b171), .val (.ref b176), .val (.ref b180), .val (.ref b_184), .unset] [])) _
    refine XS.aload X184.here hx rfl (hb hby at_130) rfl rfl ?_
    show Steps p.tables e below (T184.setTop (mkF m 132 #[.val (.long q0), .second, .val (.long q1), .second, .val (.long q2), .second, .val (.long q3), .second, .val (.long q4), .second, .val (.int p5), .val (.ref b156), .val (.ref b161), .val (.ref b166), .val (.ref b171), .val (.ref b176), .val (.ref b180), .val (.ref b_184), .unset] [(.ref b166)])) _
    refine XS.astore X184.here hx rfl (hb hby at_132) rfl rfl (l' := #[.val (.long q0), .second, .val (.long q1), .second, .val (.long q2), .second, .val (.long q3), .second, .val (.long q4), .second, .val (.int p5), .val (.ref b156), .val (.ref b161), .val (.ref b166), .val (.ref b171), .val (.ref b176), .val (.ref b180), .val (.ref b_184), .val (.ref b166)]) rfl ?_
    show Steps p.tables e below (T184.setTop (mkF m 134 #[.val (.long q0), .second, .val (.long q1), .second, .val (.long q2), .second, .val (.long q3), .second, .val (.long q4), .second, .val (.int p5), .val (.ref b156), .val (.ref b161), .val (.ref b166), .val (.ref b171), .val (.ref b176), .val (.ref b180), .val (.ref b_184), .val (.ref b166)] [])) _
    refine XS.goto X184.here hx rfl (pc0 := 134) (pc' := 141) rfl (hb hby at_134) (by decide) (by decide) ?_
    show Steps p.tables e below (T184.setTop (mkF m 141 #[.val (.long q0), .second, .val (.long q1), .second, .val (.long q2), .second, .val (.long q3), .second, .val (.long q4), .second, .val (.int p5), .val (.ref b156), .val (.ref b161), .val (.ref b166), .val (.ref b171), .val (.ref b176), .val (.ref b180), .val (.ref b_184), .val (.ref b166)] [])) _
    refine XS.aload X184.here hx rfl (hb hby at_141) rfl rfl ?_
    show Steps p.tables e below (T184.setTop (mkF m 143 #[.val (.long q0), .second, .val (.long q1), .second, .val (.long q2), .second, .val (.long q3), .second, .val (.long q4), .second, .val (.int p5), .val (.ref b156), .val (.ref b161), .val (.ref b166), .val (.ref b171), .val (.ref b176), .val (.ref b180), .val (.ref b_184), .val (.ref b166)] [(.ref b_184)])) _
    refine st191.trans ?_
    show Steps p.tables e below (T191.setTop (mkF m 146 #[.val (.long q0), .second, .val (.long q1), .second, .val (.long q2), .second, .val (.long q3), .second, .val (.long q4), .second, .val (.int p5), .val (.ref b156), .val (.ref b161), .val (.ref b166), .val (.ref b171), .val (.ref b176), .val (.ref b180), .val (.ref b_184), .val (.ref b166)] [(.long (q0 + q1))])) _
    refine XS.lloadN X191.here hx rfl (hb hby at_146) rfl ?_
    show Steps p.tables e below (T191.setTop (mkF m 147 #[.val (.long q0), .second, .val (.long q1), .second, .val (.long q2), .second, .val (.long q3), .second, .val (.long q4), .second, .val (.int p5), .val (.ref b156), .val (.ref b161), .val (.ref b166), .val (.ref b171), .val (.ref b176), .val (.ref b180), .val (.ref b_184), .val (.ref b166)] [(.long q0), (.long (q0 + q1))])) _
    refine XS.lloadN X191.here hx rfl (hb hby at_147) rfl ?_
    show Steps p.tables e below (T191.setTop (mkF m 148 #[.val (.long q0), .second, .val (.long q1), .second, .val (.long q2), .second, .val (.long q3), .second, .val (.long q4), .second, .val (.int p5), .val (.ref b156), .val (.ref b161), .val (.ref b166), .val (.ref b171), .val (.ref b176), .val (.ref b180), .val (.ref b_184), .val (.ref b166)] [(.long q1), (.long q0), (.long (q0 + q1))])) _
    refine XS.ladd X191.here hx rfl (hb hby at_148) rfl ?_
    show Steps p.tables e below (T191.setTop (mkF m 149 #[.val (.long q0), .second, .val (.long q1), .second, .val (.long q2), .second, .val (.long q3), .second, .val (.long q4), .second, .val (.int p5), .val (.ref b156), .val (.ref b161), .val (.ref b166), .val (.ref b171), .val (.ref b176), .val (.ref b180), .val (.ref b_184), .val (.ref b166)] [(.long (q0 + q1)), (.long (q0 + q1))])) _
    refine XS.lcmp X191.here hx rfl (hb hby at_149) rfl ?_
    show Steps p.tables e below (T191.setTop (mkF m 150 #[.val (.long q0), .second, .val (.long q1), .second, .val (.long q2), .second, .val (.long q3), .second, .val (.long q4), .second, .val (.int p5), .val (.ref b156), .val (.ref b161), .val (.ref b166), .val (.ref b171), .val (.ref b176), .val (.ref b180), .val (.ref b_184), .val (.ref b166)] [(.int (lcmpW (q0 + q1) (q0 + q1)))])) _
    refine XS.ifNo X191.here hx rfl (hb hby at_150) rfl ((if0 _ _).trans (teq ((lw_eq _ _).mpr rfl : (lcmpW (q0 + q1) (q0 + q1)) = (0 : Int32))).2) ?_
    show Steps p.tables e below (T191.setTop (mkF m 153 #[.val (.long q0), .second, .val (.long q1), .second, .val (.long q2), .second, .val (.long q3), .second, .val (.long q4), .second, .val (.int p5), .val (.ref b156), .val (.ref b161), .val (.ref b166), .val (.ref b171), .val (.ref b176), .val (.ref b180), .val (.ref b_184), .val (.ref b166)] [])) _
    refine XS.aload X191.here hx rfl (hb hby at_153) rfl rfl ?_
    show Steps p.tables e below (T191.setTop (mkF m 155 #[.val (.long q0), .second, .val (.long q1), .second, .val (.long q2), .second, .val (.long q3), .second, .val (.long q4), .second, .val (.int p5), .val (.ref b156), .val (.ref b161), .val (.ref b166), .val (.ref b171), .val (.ref b176), .val (.ref b180), .val (.ref b_184), .val (.ref b166)] [(.ref b_184)])) _
    refine st192.trans ?_
    show Steps p.tables e below (T192.setTop (mkF m 158 #[.val (.long q0), .second, .val (.long q1), .second, .val (.long q2), .second, .val (.long q3), .second, .val (.long q4), .second, .val (.int p5), .val (.ref b156), .val (.ref b161), .val (.ref b166), .val (.ref b171), .val (.ref b176), .val (.ref b180), .val (.ref b_184), .val (.ref b166)] [(.long (q2 + q3))])) _
    refine XS.lload X192.here hx rfl (hb hby at_158) rfl ?_
    show Steps p.tables e below (T192.setTop (mkF m 160 #[.val (.long q0), .second, .val (.long q1), .second, .val (.long q2), .second, .val (.long q3), .second, .val (.long q4), .second, .val (.int p5), .val (.ref b156), .val (.ref b161), .val (.ref b166), .val (.ref b171), .val (.ref b176), .val (.ref b180), .val (.ref b_184), .val (.ref b166)] [(.long q2), (.long (q2 + q3))])) _
    refine XS.lload X192.here hx rfl (hb hby at_160) rfl ?_
    show Steps p.tables e below (T192.setTop (mkF m 162 #[.val (.long q0), .second, .val (.long q1), .second, .val (.long q2), .second, .val (.long q3), .second, .val (.long q4), .second, .val (.int p5), .val (.ref b156), .val (.ref b161), .val (.ref b166), .val (.ref b171), .val (.ref b176), .val (.ref b180), .val (.ref b_184), .val (.ref b166)] [(.long q3), (.long q2), (.long (q2 + q3))])) _
    refine XS.ladd X192.here hx rfl (hb hby at_162) rfl ?_
    show Steps p.tables e below (T192.setTop (mkF m 163 #[.val (.long q0), .second, .val (.long q1), .second, .val (.long q2), .second, .val (.long q3), .second, .val (.long q4), .second, .val (.int p5), .val (.ref b156), .val (.ref b161), .val (.ref b166), .val (.ref b171), .val (.ref b176), .val (.ref b180), .val (.ref b_184), .val (.ref b166)] [(.long (q2 + q3)), (.long (q2 + q3))])) _
    refine XS.lcmp X192.here hx rfl (hb hby at_163) rfl ?_
    show Steps p.tables e below (T192.setTop (mkF m 164 #[.val (.long q0), .second, .val (.long q1), .second, .val (.long q2), .second, .val (.long q3), .second, .val (.long q4), .second, .val (.int p5), .val (.ref b156), .val (.ref b161), .val (.ref b166), .val (.ref b171), .val (.ref b176), .val (.ref b180), .val (.ref b_184), .val (.ref b166)] [(.int (lcmpW (q2 + q3) (q2 + q3)))])) _
    refine XS.ifNo X192.here hx rfl (hb hby at_164) rfl ((if0 _ _).trans (teq ((lw_eq _ _).mpr rfl : (lcmpW (q2 + q3) (q2 + q3)) = (0 : Int32))).2) ?_
    show Steps p.tables e below (T192.setTop (mkF m 167 #[.val (.long q0), .second, .val (.long q1), .second, .val (.long q2), .second, .val (.long q3), .second, .val (.long q4), .second, .val (.int p5), .val (.ref b156), .val (.ref b161), .val (.ref b166), .val (.ref b171), .val (.ref b176), .val (.ref b180), .val (.ref b_184), .val (.ref b166)] [])) _
    refine XS.aload X192.here hx rfl (hb hby at_167) rfl rfl ?_
    show Steps p.tables e below (T192.setTop (mkF m 169 #[.val (.long q0), .second, .val (.long q1), .second, .val (.long q2), .second, .val (.long q3), .second, .val (.long q4), .second, .val (.int p5), .val (.ref b156), .val (.ref b161), .val (.ref b166), .val (.ref b171), .val (.ref b176), .val (.ref b180), .val (.ref b_184), .val (.ref b166)] [(.ref b_184)])) _
    refine st193.trans ?_
    show Steps p.tables e below (T193.setTop (mkF m 172 #[.val (.long q0), .second, .val (.long q1), .second, .val (.long q2), .second, .val (.long q3), .second, .val (.long q4), .second, .val (.int p5), .val (.ref b156), .val (.ref b161), .val (.ref b166), .val (.ref b171), .val (.ref b176), .val (.ref b180), .val (.ref b_184), .val (.ref b166)] [(.ref b166)])) _
    refine XS.aload X193.here hx rfl (hb hby at_172) rfl rfl ?_
    show Steps p.tables e below (T193.setTop (mkF m 174 #[.val (.long q0), .second, .val (.long q1), .second, .val (.long q2), .second, .val (.long q3), .second, .val (.long q4), .second, .val (.int p5), .val (.ref b156), .val (.ref b161), .val (.ref b166), .val (.ref b171), .val (.ref b176), .val (.ref b180), .val (.ref b_184), .val (.ref b166)] [(.ref b166), (.ref b166)])) _
    refine Jvm.RoadKit.acmp (g := (mkF m 174 #[.val (.long q0), .second, .val (.long q1), .second, .val (.long q2), .second, .val (.long q3), .second, .val (.long q4), .second, .val (.int p5), .val (.ref b156), .val (.ref b161), .val (.ref b166), .val (.ref b171), .val (.ref b176), .val (.ref b180), .val (.ref b_184), .val (.ref b166)] [(.ref b166), (.ref b166)])) X193 hx rfl rfl rfl (pc0 := 174) (pc' := 177) (same := true) rfl (hb hby at_174) rfl (decide_eq_true rfl) (by decide) (by decide) ?_
    show Steps p.tables e below (T193.setTop (mkF m 177 #[.val (.long q0), .second, .val (.long q1), .second, .val (.long q2), .second, .val (.long q3), .second, .val (.long q4), .second, .val (.int p5), .val (.ref b156), .val (.ref b161), .val (.ref b166), .val (.ref b171), .val (.ref b176), .val (.ref b180), .val (.ref b_184), .val (.ref b166)] [])) _
    refine XS.iconst X193.here hx rfl (hb hby at_177) ?_
    show Steps p.tables e below (T193.setTop (mkF m 178 #[.val (.long q0), .second, .val (.long q1), .second, .val (.long q2), .second, .val (.long q3), .second, .val (.long q4), .second, .val (.int p5), .val (.ref b156), .val (.ref b161), .val (.ref b166), .val (.ref b171), .val (.ref b176), .val (.ref b180), .val (.ref b_184), .val (.ref b166)] [(.int (1 : Int32))])) _
    refine XS.goto X193.here hx rfl (pc0 := 178) (pc' := 182) rfl (hb hby at_178) (by decide) (by decide) ?_
    show Steps p.tables e below (T193.setTop (mkF m 182 #[.val (.long q0), .second, .val (.long q1), .second, .val (.long q2), .second, .val (.long q3), .second, .val (.long q4), .second, .val (.int p5), .val (.ref b156), .val (.ref b161), .val (.ref b166), .val (.ref b171), .val (.ref b176), .val (.ref b180), .val (.ref b_184), .val (.ref b166)] [(.int (1 : Int32))])) _
    exact retN X193 hx (t := .boolean) Bd.returns (by simp) (hb hby at_182) hr
  · show Q0 Z G1 q0 q1 q2 q3 q4 p5 h0 n0 _ T193.heap _
    rw [eq193]
    exact ⟨rfl, N193, K0_190⟩
set_option maxRecDepth 65536 in
theorem rm0 (l : Launch) (Z : State) (a0 : Array Value) (G1 : Int32) (hG : Glob Z a0 G1) (ws : List Jvm.Cond) (q0 : Int64) (q1 : Int64) (q2 : Int64) (q3 : Int64) (q4 : Int64) (p5 : Int32) (h0 : Heap) (n0 : Nat) (Z0 : n0 ≤ h0.size) (X00 : Old Z n0 h0) :
    MetFree l x (head1 (Jvm.Cond.code x code maxLocals ret :: ws) room_1) (fun a U => a = #[(.long q0), (.long q1), (.long q2), (.long q3), (.long q4), (.int p5)] ∧ Z.Warmed39 U.vm ∧ U.heap = h0) (fun _ _ _ _ _ => True) (fun _ U o U' => ∃ v L, o = .returned v ∧ Q0 Z G1 q0 q1 q2 q3 q4 p5 h0 n0 v U'.heap L ∧ FrameEnd U o U' L room_1.cells room_1.slots) := by
  by_cases h1 : (p5 &&& (1 : Int32)) = (0 : Int32) <;> by_cases h2 : (p5 &&& (2 : Int32)) = (0 : Int32)
  · exact rm0_tt l Z a0 G1 hG ws q0 q1 q2 q3 q4 p5 h0 n0 Z0 X00 h1 h2
  · exact rm0_tf l Z a0 G1 hG ws q0 q1 q2 q3 q4 p5 h0 n0 Z0 X00 h1 h2
  · exact rm0_ft l Z a0 G1 hG ws q0 q1 q2 q3 q4 p5 h0 n0 Z0 X00 h1 h2
  · exact rm0_ff l Z a0 G1 hG ws q0 q1 q2 q3 q4 p5 h0 n0 Z0 X00 h1 h2
set_option maxRecDepth 65536 in
set_option maxHeartbeats 40000000 in
theorem comes_1 {Post : Tables → Env → Array Value → State → Outcome → State → Prop} (hpost : ∀ tb e args s v u, (limb_1_1.after args s (.returned v) u = true ∧ limb_1_2.after args s (.returned v) u = true ∧ True) → FrameEnd s (.returned v) u (Jvm.fieldLocs frame_1_writes args s ++ Jvm.arrayLocs frame_1_arrays args s ++ Jvm.staticLocs frame_1_statics s) 32 128 → Post tb e args s (.returned v) u) :
    ArmFor flags0 classFile x code maxLocals ret World_1 tables_1 room_1 Calls_1 rest_1 Pre_1 Post := by
  intro l hfl _ _ p e ha hc hk s m args below hf hA hF happ hP
  obtain ⟨hcalls, hrest, hpre⟩ := hP
  obtain ⟨-, -, -, hnamed, -, -, -, hat⟩ := (Spec.applies_iff hf).mp happ
  obtain ⟨hg, hn⟩ := and_e (Cond.before_iff.mp (show (Jvm.Cond.and given_1 narrow_1).before args s = true from hpre))
  obtain ⟨gc, gr0⟩ := and_e hg
  obtain ⟨ga0, gr1⟩ := and_e gr0
  obtain ⟨ga1, gr2⟩ := and_e gr1
  obtain ⟨ga2, gr3⟩ := and_e gr2
  obtain ⟨ga3, gr4⟩ := and_e gr3
  obtain ⟨ga4, gr5⟩ := and_e gr4
  obtain ⟨w0, w1, w2, w3, w4, w5, rfl⟩ : ∃ w0 w1 w2 w3 w4 w5 : Value, args = #[w0, w1, w2, w3, w4, w5] := by
    have hs : args.size = 6 := by simpa [Cond.value, given_1] using gc
    obtain ⟨L⟩ := args
    match L, hs with
    | [w0, w1, w2, w3, w4, w5], _ => exact ⟨w0, w1, w2, w3, w4, w5, rfl⟩
  have hw := fun d (hd : d ∈ tables_1) => atoms_spec (ws := Jvm.Cond.code x code maxLocals ret :: tables_1) hat d (List.mem_cons_of_mem _ hd)
  have hfit : Fit s := fun {y c} hc i hi => by
    obtain ⟨ha, rfl⟩ := Array.getElem?_eq_some_iff.mp hc
    have q := List.all_eq_true.mp ((Array.all_eq_true_iff_forall_mem.mp hF) _ (Array.getElem_mem ha)) i (List.mem_range.mpr hi)
    simpa [Array.getElem?_eq_getElem hi] using q
  obtain ⟨hsets, hown0⟩ := atoms_of _ (rest_1_c_eq ▸ (show rest_1_c.before _ s = true from hrest))
  obtain ⟨i0, ei0⟩ := isL_v ga0
  obtain rfl : w0 = (.long i0) := Option.some.inj ei0
  obtain ⟨i1, ei1⟩ := isL_v ga1
  obtain rfl : w1 = (.long i1) := Option.some.inj ei1
  obtain ⟨i2, ei2⟩ := isL_v ga2
  obtain rfl : w2 = (.long i2) := Option.some.inj ei2
  obtain ⟨i3, ei3⟩ := isL_v ga3
  obtain rfl : w3 = (.long i3) := Option.some.inj ei3
  obtain ⟨i4, ei4⟩ := isL_v ga4
  obtain rfl : w4 = (.long i4) := Option.some.inj ei4
  obtain ⟨i5, ei5⟩ := is_v gr5
  obtain rfl : w5 = (.int i5) := Option.some.inj ei5
  have W : ∀ (i : Nat) {d : Jvm.Cond}, tables_1[i]? = some d → d.before _ s = true := fun i d h => hw d (List.mem_of_getElem? h)
  obtain ⟨G, eG⟩ := is_v (Cond.before_iff.mp (hsets _ (List.mem_of_getElem? (i := 1) rfl)))
  have nG := not_v (Cond.before_iff.mp (hsets _ (List.mem_of_getElem? (i := 2) rfl)))
  have SG : Sta s s.heap "java/lang/String" "COMPACT_STRINGS" "Z" (.int G) := Sta.start eG (Or.inl (hsets _ (List.mem_of_getElem? (i := 0) rfl)))
  have cG : ¬ (G = (0 : Int32)) := gotF (Cond.eq_ints eG (Term.int_eval (0))) nG
  have hG : Glob s _ G := ⟨hw, SG, cG⟩
  obtain ⟨n, o, h1, h2, h3, _, L, rfl, ⟨rfl, N, -⟩, hq⟩ := rm0 l s _ G hG tables_1 i0 i1 i2 i3 i4 i5 s.heap s.heap.size (Nat.le_refl _) (Old.start s) p e ha hc hk s m _ below hf ((Spec.applies_iff_loose hf).mp happ).1 ⟨rfl, State.Warmed39.refl s, rfl⟩ trivial
  refine ⟨n, _, h1, h2, h3, hpost _ _ _ _ _ _ ⟨Cond.after_iff.mpr rfl, Cond.after_iff.mpr (eq_i res_at (Term.int_eval (1)) rfl), trivial⟩ ⟨hq.1, hq.2.1, (hq.2.2.sift fun y hy => Or.inr (N y hy)).mono (by decide) (by decide)⟩⟩
theorem main_1_1 : Claimed_1_1 := comes_1 fun _ _ _ _ _ _ h hF => ⟨h.1, hF⟩
theorem main_1_2 : Claimed_1_2 := comes_1 fun _ _ _ _ _ _ h hF => ⟨h.2.1, hF⟩
end Jvm.Pilot.@@N@@
namespace Jvm.Pilot.@@N@@
open Jvm Jvm.ClassFile Sem Op Lib Jvm.Free Jvm.Stand Jvm.Pilot.@@N@@.Jvm.D
/-! MADE BY PROGRAM (witnessworld.py) out of the Statement's table words and the real class files: 20 classes; the members and pool entries that the words name. The judged class is class 1, her method 1. -/
namespace start1
open Jvm.ClassFile
def u (s : String) : CpInfo := .utf8 (stringToUtf16 s)
/-- a pool by its gaps: so many unusable entries, then the entry; so many at the end -/
def gap : Nat → List CpInfo → List CpInfo
  | 0, r => r
  | n + 1, r => .unusable :: gap n r
def poolList (es : List (Nat × CpInfo)) (last : Nat) : List CpInfo := es.foldr (fun e r => gap e.1 (e.2 :: r)) (gap last [])
def pool (es : List (Nat × CpInfo)) (last : Nat) : Array CpInfo := ⟨poolList es last⟩
def fileOf (pool : Array CpInfo) (this : Nat) (attrs : Array Attribute := #[]) (ms : Array MethodInfo := #[]) (fl : Nat := 33) (sup : Nat := 0) (ifs : Array Nat := #[]) (fds : Array FieldInfo := #[]) : ClassFile where
  minorVersion := 0
  majorVersion := 65
  constantPool := pool
  accessFlags := fl
  thisClass := this
  superClass := sup
  interfaces := ifs
  fields := fds
  methods := ms
  attributes := attrs
def plain (name : String) (sup : Option ClassId) : Class where
  name := name
  kind := .ordinary
  loader := none
  accessFlags := 33
  super := sup
  interfaces := #[]
  cf := none
  fields := #[]
  methods := #[]
  instanceTypes := #[]
  staticTypes := #[]
  resolved := #[]
  callSites := []
  init := .initialized
  statics := none
  mirror := none

def pool0 : Array CpInfo := pool [(5, u "<init>"), (0, u "()V"), (1, .class_ 10), (1, u "java/lang/Object")] 113

def k0c0 : Code := { maxStack := 0, maxLocals := 1, code := object_method_1_code, exceptionTable := #[], attributes := #[] }
def k0m0 : Method := { name := "<init>", desc := "()V", sig := { parameters := [], returnType := none }, accessFlags := 1, code := some k0c0 }
/-- java/lang/Object -/
def k0 : Class := { plain "java/lang/Object" none with
  accessFlags := 33
  interfaces := #[]
  cf := some (fileOf pool0 8 #[] #[{ accessFlags := 1, nameIndex := 5, descriptorIndex := 6, attributes := #[] }] 33 0 #[] #[])
  fields := #[]
  methods := #[k0m0]
  instanceTypes := #[]
  staticTypes := #[]
  resolved := Array.replicate 124 none
  statics := none }

def pool1 : Array CpInfo := pool [(2, .class_ 4), (1, u "java/lang/Object"), (0, u "<init>"), (0, u "()V"), (0, .class_ 8), (0, u "java/lang/String"), (0, .methodref 7 10), (0, .nameAndType 5 11), (0, u "([C)V"), (0, .class_ 13), (0, u "com/example/armor_for_retries/armorforretries/bench/Tally"), (0, .methodref 12 15), (0, .nameAndType 5 16), (0, u "(JJJLjava/lang/String;)V"), (0, .long 18446744073709551615), (1, .methodref 12 20), (0, .nameAndType 21 22), (0, u "plus"), (0, u "(Lcom/example/armor_for_retries/armorforretries/bench/Tally;)Lcom/example/armor_for_retries/armorforretries/bench/Tally;"), (0, .methodref 12 24), (0, .nameAndType 25 26), (0, u "created"), (0, u "()J"), (0, .methodref 12 28), (0, .nameAndType 29 26), (0, u "errors"), (0, .methodref 12 31), (0, .nameAndType 32 33), (0, u "firstError"), (0, u "()Ljava/lang/String;"), (0, .class_ 35), (0, u "com/example/armor_for_retries/armorforretries/bench/TallyPlusPinLaw"), (2, u "law"), (0, u "(JJJJJI)Z")] 5

def k1m0 : Method := { name := "<init>", desc := "()V", sig := { parameters := [], returnType := none }, accessFlags := 2, code := none }
def k1c1 : Code := { maxStack := 9, maxLocals := 19, code := code, exceptionTable := #[], attributes := #[] }
def k1m1 : Method := { name := "law", desc := "(JJJJJI)Z", sig := { parameters := [.long, .long, .long, .long, .long, .int], returnType := some .boolean }, accessFlags := 9, code := some k1c1 }
/-- com/example/armor_for_retries/armorforretries/bench/TallyPlusPinLaw -/
def k1 : Class := { plain "com/example/armor_for_retries/armorforretries/bench/TallyPlusPinLaw" (some 0) with
  accessFlags := 49
  interfaces := #[]
  cf := some (fileOf pool1 34 #[] #[{ accessFlags := 2, nameIndex := 5, descriptorIndex := 6, attributes := #[] }, { accessFlags := 9, nameIndex := 38, descriptorIndex := 39, attributes := #[] }] 49 2 #[] #[])
  fields := #[]
  methods := #[k1m0, k1m1]
  instanceTypes := #[]
  staticTypes := #[]
  resolved := Array.replicate 45 none
  statics := none }

def pool2 : Array CpInfo := pool [(1, .class_ 2), (0, u "java/io/Serializable"), (0, .class_ 4), (0, u "java/lang/Object")] 2

/-- java/io/Serializable -/
def k2 : Class := { plain "java/io/Serializable" (some 0) with
  accessFlags := 1537
  interfaces := #[]
  cf := some (fileOf pool2 1 #[] #[] 1537 3 #[] #[])
  fields := #[]
  methods := #[]
  instanceTypes := #[]
  staticTypes := #[]
  resolved := Array.replicate 7 none
  statics := none }

def pool3 : Array CpInfo := pool [(1, .class_ 2), (0, u "java/lang/Comparable"), (0, .class_ 4), (0, u "java/lang/Object")] 7

/-- java/lang/Comparable -/
def k3 : Class := { plain "java/lang/Comparable" (some 0) with
  accessFlags := 1537
  interfaces := #[]
  cf := some (fileOf pool3 1 #[] #[] 1537 3 #[] #[])
  fields := #[]
  methods := #[]
  instanceTypes := #[]
  staticTypes := #[]
  resolved := Array.replicate 12 none
  statics := none }

def pool4 : Array CpInfo := pool [(2, .class_ 4), (1, u "java/lang/CharSequence"), (42, .class_ 48), (0, u "java/lang/CharSequence$1CodePointIterator"), (10, .class_ 60), (0, u "java/lang/CharSequence$1CharIterator"), (5, .class_ 67), (0, u "java/lang/Object")] 63

/-- java/lang/CharSequence -/
def k4 : Class := { plain "java/lang/CharSequence" (some 0) with
  accessFlags := 1537
  interfaces := #[]
  cf := some (fileOf pool4 2 #[.nestMembers #[47, 59]] #[] 1537 66 #[] #[])
  fields := #[]
  methods := #[]
  instanceTypes := #[]
  staticTypes := #[]
  resolved := Array.replicate 131 none
  statics := none }

def pool5 : Array CpInfo := pool [(1, .class_ 2), (0, u "java/lang/constant/Constable"), (0, .class_ 4), (0, u "java/lang/Object")] 6

/-- java/lang/constant/Constable -/
def k5 : Class := { plain "java/lang/constant/Constable" (some 0) with
  accessFlags := 1537
  interfaces := #[]
  cf := some (fileOf pool5 1 #[] #[] 1537 3 #[] #[])
  fields := #[]
  methods := #[]
  instanceTypes := #[]
  staticTypes := #[]
  resolved := Array.replicate 11 none
  statics := none }

def pool6 : Array CpInfo := pool [(1, .class_ 2), (0, u "java/lang/constant/ConstantDesc"), (0, .class_ 4), (0, u "java/lang/Object")] 32

/-- java/lang/constant/ConstantDesc -/
def k6 : Class := { plain "java/lang/constant/ConstantDesc" (some 0) with
  accessFlags := 1537
  interfaces := #[]
  cf := some (fileOf pool6 1 #[] #[] 1537 3 #[] #[])
  fields := #[]
  methods := #[]
  instanceTypes := #[]
  staticTypes := #[]
  resolved := Array.replicate 37 none
  statics := none }

def pool7 : Array CpInfo := pool [(1, .methodref 2 3), (0, .class_ 4), (0, .nameAndType 5 6), (0, u "java/lang/Object"), (0, u "<init>"), (0, u "()V"), (2, .fieldref 10 11), (0, .class_ 12), (0, .nameAndType 13 14), (0, u "java/lang/String"), (0, u "value"), (0, u "[B"), (0, .fieldref 10 16), (0, .nameAndType 17 18), (0, u "coder"), (0, u "B"), (2, u "hash"), (0, u "I"), (2, u "hashIsZero"), (0, u "Z"), (0, .methodref 10 28), (0, .nameAndType 5 29), (0, u "([CIILjava/lang/Void;)V"), (8, .fieldref 10 39), (0, .nameAndType 40 26), (0, u "COMPACT_STRINGS"), (1, .class_ 44), (1, u "java/lang/StringUTF16"), (0, u "compress"), (1, .methodref 42 48), (0, .nameAndType 49 50), (0, u "coderFromArrayLen"), (0, u "([BI)B"), (126, .methodref 42 178), (0, .nameAndType 45 179), (0, u "([CII)[B"), (395, .class_ 576), (0, u "java/lang/CharSequence"), (22, u "CASE_INSENSITIVE_ORDER"), (0, u "Ljava/util/Comparator;"), (409, u "([C)V"), (90, u "serialPersistentFields"), (0, u "[Ljava/io/ObjectStreamField;"), (0, .class_ 1104), (0, u "java/lang/String$CaseInsensitiveComparator"), (1, .class_ 1107), (0, u "java/io/Serializable"), (0, .class_ 1109), (0, u "java/lang/Comparable"), (0, .class_ 1111), (0, u "java/lang/constant/Constable"), (0, .class_ 1113), (0, u "java/lang/constant/ConstantDesc"), (2, u "serialVersionUID"), (0, u "J"), (3, u "REPL"), (0, u "C"), (2, u "LATIN1"), (1, u "UTF16")] 323

def k7m0 : Method := { name := "<init>", desc := "()V", sig := { parameters := [], returnType := none }, accessFlags := 1, code := none }
def k7c1 : Code := { maxStack := 5, maxLocals := 2, code := jdk_42_method_3_code, exceptionTable := #[], attributes := #[] }
def k7m1 : Method := { name := "<init>", desc := "([C)V", sig := { parameters := [(.array .char)], returnType := none }, accessFlags := 1, code := some k7c1 }
def k7c2 : Code := { maxStack := 4, maxLocals := 6, code := jdk_42_method_149_code, exceptionTable := #[], attributes := #[] }
def k7m2 : Method := { name := "<init>", desc := "([CIILjava/lang/Void;)V", sig := { parameters := [(.array .char), .int, .int, (.object "java/lang/Void")], returnType := none }, accessFlags := 2, code := some k7c2 }
/-- java/lang/String -/
def k7 : Class := { plain "java/lang/String" (some 0) with
  accessFlags := 49
  interfaces := #[2, 3, 4, 5, 6]
  cf := some (fileOf pool7 10 #[.nestMembers #[1103]] #[{ accessFlags := 1, nameIndex := 5, descriptorIndex := 6, attributes := #[] }, { accessFlags := 1, nameIndex := 5, descriptorIndex := 1010, attributes := #[] }, { accessFlags := 2, nameIndex := 5, descriptorIndex := 29, attributes := #[] }] 49 2 #[1106, 1108, 575, 1110, 1112] #[{ accessFlags := 18, nameIndex := 13, descriptorIndex := 14, attributes := #[] }, { accessFlags := 18, nameIndex := 17, descriptorIndex := 18, attributes := #[] }, { accessFlags := 2, nameIndex := 21, descriptorIndex := 22, attributes := #[] }, { accessFlags := 2, nameIndex := 25, descriptorIndex := 26, attributes := #[] }, { accessFlags := 26, nameIndex := 1116, descriptorIndex := 1117, attributes := #[] }, { accessFlags := 24, nameIndex := 40, descriptorIndex := 26, attributes := #[] }, { accessFlags := 26, nameIndex := 1101, descriptorIndex := 1102, attributes := #[] }, { accessFlags := 26, nameIndex := 1121, descriptorIndex := 1122, attributes := #[] }, { accessFlags := 25, nameIndex := 599, descriptorIndex := 600, attributes := #[] }, { accessFlags := 24, nameIndex := 1125, descriptorIndex := 18, attributes := #[] }, { accessFlags := 24, nameIndex := 1127, descriptorIndex := 18, attributes := #[] }])
  fields := #[{ name := "value", type := (.array .byte), accessFlags := 18, slot := 0, constantValue := 0 }, { name := "coder", type := .byte, accessFlags := 18, slot := 1, constantValue := 0 }, { name := "hash", type := .int, accessFlags := 2, slot := 2, constantValue := 0 }, { name := "hashIsZero", type := .boolean, accessFlags := 2, slot := 3, constantValue := 0 }, { name := "serialVersionUID", type := .long, accessFlags := 26, slot := 0, constantValue := 0 }, { name := "COMPACT_STRINGS", type := .boolean, accessFlags := 24, slot := 1, constantValue := 0 }, { name := "serialPersistentFields", type := (.array (.object "java/io/ObjectStreamField")), accessFlags := 26, slot := 2, constantValue := 0 }, { name := "REPL", type := .char, accessFlags := 26, slot := 3, constantValue := 0 }, { name := "CASE_INSENSITIVE_ORDER", type := (.object "java/util/Comparator"), accessFlags := 25, slot := 4, constantValue := 0 }, { name := "LATIN1", type := .byte, accessFlags := 24, slot := 5, constantValue := 0 }, { name := "UTF16", type := .byte, accessFlags := 24, slot := 6, constantValue := 0 }]
  methods := #[k7m0, k7m1, k7m2]
  instanceTypes := #[(.array .byte), .byte, .int, .boolean]
  staticTypes := #[.long, .boolean, (.array (.object "java/io/ObjectStreamField")), .char, (.object "java/util/Comparator"), .byte, .byte]
  resolved := Array.replicate 1451 none
  statics := some 0 }

def pool8 : Array CpInfo := pool [(6, .class_ 8), (1, u "java/lang/Object"), (0, u "<init>"), (0, u "()V"), (1, .class_ 14), (1, u "java/lang/StringUTF16"), (31, u "$assertionsDisabled"), (0, u "Z"), (13, u "HI_BYTE_SHIFT"), (0, u "I"), (2, u "LO_BYTE_SHIFT"), (49, .methodref 12 116), (0, .nameAndType 117 118), (0, u "compress"), (0, u "([CI[BII)I"), (3, u "([CII)[B"), (138, u "coderFromArrayLen"), (0, u "([BI)B"), (106, .class_ 371), (1, u "java/lang/StringUTF16$LinesSpliterator"), (58, u "MAX_LENGTH"), (196, .class_ 628), (0, u "java/lang/StringUTF16$CodePointsSpliterator"), (0, .class_ 630), (0, u "java/lang/StringUTF16$CharsSpliterator")] 4

def k8m0 : Method := { name := "<init>", desc := "()V", sig := { parameters := [], returnType := none }, accessFlags := 0, code := none }
def k8c1 : Code := { maxStack := 2, maxLocals := 2, code := jdk_52_method_15_code, exceptionTable := #[], attributes := #[] }
def k8m1 : Method := { name := "coderFromArrayLen", desc := "([BI)B", sig := { parameters := [(.array .byte), .int], returnType := some .byte }, accessFlags := 8, code := some k8c1 }
def k8c2 : Code := { maxStack := 5, maxLocals := 6, code := jdk_52_method_16_code, exceptionTable := #[], attributes := #[] }
def k8m2 : Method := { name := "compress", desc := "([CII)[B", sig := { parameters := [(.array .char), .int, .int], returnType := some (.array .byte) }, accessFlags := 9, code := some k8c2 }
def k8c3 : Code := { maxStack := 3, maxLocals := 7, code := jdk_52_method_21_code, exceptionTable := #[], attributes := #[] }
def k8m3 : Method := { name := "compress", desc := "([CI[BII)I", sig := { parameters := [(.array .char), .int, (.array .byte), .int, .int], returnType := some .int }, accessFlags := 9, code := some k8c3 }
/-- java/lang/StringUTF16 -/
def k8 : Class := { plain "java/lang/StringUTF16" (some 0) with
  accessFlags := 48
  interfaces := #[]
  cf := some (fileOf pool8 12 #[.nestMembers #[627, 629, 369]] #[{ accessFlags := 0, nameIndex := 9, descriptorIndex := 10, attributes := #[] }, { accessFlags := 8, nameIndex := 261, descriptorIndex := 262, attributes := #[] }, { accessFlags := 9, nameIndex := 117, descriptorIndex := 122, attributes := #[] }, { accessFlags := 9, nameIndex := 117, descriptorIndex := 118, attributes := #[] }] 48 6 #[] #[{ accessFlags := 26, nameIndex := 61, descriptorIndex := 62, attributes := #[] }, { accessFlags := 26, nameIndex := 65, descriptorIndex := 62, attributes := #[] }, { accessFlags := 24, nameIndex := 430, descriptorIndex := 62, attributes := #[] }, { accessFlags := 4120, nameIndex := 46, descriptorIndex := 47, attributes := #[] }])
  fields := #[{ name := "HI_BYTE_SHIFT", type := .int, accessFlags := 26, slot := 0, constantValue := 0 }, { name := "LO_BYTE_SHIFT", type := .int, accessFlags := 26, slot := 1, constantValue := 0 }, { name := "MAX_LENGTH", type := .int, accessFlags := 24, slot := 2, constantValue := 0 }, { name := "$assertionsDisabled", type := .boolean, accessFlags := 4120, slot := 3, constantValue := 0 }]
  methods := #[k8m0, k8m1, k8m2, k8m3]
  instanceTypes := #[]
  staticTypes := #[.int, .int, .int, .boolean]
  resolved := Array.replicate 635 none
  statics := none }

def pool9 : Array CpInfo := pool [(1, .methodref 2 3), (0, .class_ 4), (0, .nameAndType 5 6), (0, u "java/lang/Object"), (0, u "<init>"), (0, u "()V"), (0, .fieldref 8 9), (0, .class_ 10), (0, .nameAndType 11 12), (0, u "com/example/armor_for_retries/armorforretries/bench/Tally"), (0, u "created"), (0, u "J"), (0, .fieldref 8 14), (0, .nameAndType 15 12), (0, u "windowed"), (0, .fieldref 8 17), (0, .nameAndType 18 12), (0, u "errors"), (0, .fieldref 8 20), (0, .nameAndType 21 22), (0, u "firstError"), (0, u "Ljava/lang/String;"), (0, .methodref 8 24), (0, .nameAndType 5 25), (0, u "(JJJLjava/lang/String;)V"), (7, u "()J"), (8, u "NONE"), (0, u "Lcom/example/armor_for_retries/armorforretries/bench/Tally;"), (2, u "plus"), (0, u "(Lcom/example/armor_for_retries/armorforretries/bench/Tally;)Lcom/example/armor_for_retries/armorforretries/bench/Tally;"), (3, u "()Ljava/lang/String;")] 5

def k9c0 : Code := { maxStack := 3, maxLocals := 8, code := prog_35_method_1_code, exceptionTable := #[], attributes := #[] }
def k9m0 : Method := { name := "<init>", desc := "(JJJLjava/lang/String;)V", sig := { parameters := [.long, .long, .long, (.object "java/lang/String")], returnType := none }, accessFlags := 0, code := some k9c0 }
def k9c1 : Code := { maxStack := 10, maxLocals := 2, code := prog_35_method_2_code, exceptionTable := #[], attributes := #[] }
def k9m1 : Method := { name := "plus", desc := "(Lcom/example/armor_for_retries/armorforretries/bench/Tally;)Lcom/example/armor_for_retries/armorforretries/bench/Tally;", sig := { parameters := [(.object "com/example/armor_for_retries/armorforretries/bench/Tally")], returnType := some (.object "com/example/armor_for_retries/armorforretries/bench/Tally") }, accessFlags := 0, code := some k9c1 }
def k9c2 : Code := { maxStack := 2, maxLocals := 1, code := prog_35_method_3_code, exceptionTable := #[], attributes := #[] }
def k9m2 : Method := { name := "created", desc := "()J", sig := { parameters := [], returnType := some .long }, accessFlags := 0, code := some k9c2 }
def k9c3 : Code := { maxStack := 2, maxLocals := 1, code := prog_35_method_4_code, exceptionTable := #[], attributes := #[] }
def k9m3 : Method := { name := "errors", desc := "()J", sig := { parameters := [], returnType := some .long }, accessFlags := 0, code := some k9c3 }
def k9c4 : Code := { maxStack := 1, maxLocals := 1, code := prog_35_method_5_code, exceptionTable := #[], attributes := #[] }
def k9m4 : Method := { name := "firstError", desc := "()Ljava/lang/String;", sig := { parameters := [], returnType := some (.object "java/lang/String") }, accessFlags := 0, code := some k9c4 }
/-- com/example/armor_for_retries/armorforretries/bench/Tally -/
def k9 : Class := { plain "com/example/armor_for_retries/armorforretries/bench/Tally" (some 0) with
  accessFlags := 48
  interfaces := #[]
  cf := some (fileOf pool9 8 #[] #[{ accessFlags := 0, nameIndex := 5, descriptorIndex := 25, attributes := #[] }, { accessFlags := 0, nameIndex := 46, descriptorIndex := 47, attributes := #[] }, { accessFlags := 0, nameIndex := 11, descriptorIndex := 33, attributes := #[] }, { accessFlags := 0, nameIndex := 18, descriptorIndex := 33, attributes := #[] }, { accessFlags := 0, nameIndex := 21, descriptorIndex := 51, attributes := #[] }] 48 2 #[] #[{ accessFlags := 24, nameIndex := 42, descriptorIndex := 43, attributes := #[] }, { accessFlags := 18, nameIndex := 11, descriptorIndex := 12, attributes := #[] }, { accessFlags := 18, nameIndex := 15, descriptorIndex := 12, attributes := #[] }, { accessFlags := 18, nameIndex := 18, descriptorIndex := 12, attributes := #[] }, { accessFlags := 18, nameIndex := 21, descriptorIndex := 22, attributes := #[] }])
  fields := #[{ name := "NONE", type := (.object "com/example/armor_for_retries/armorforretries/bench/Tally"), accessFlags := 24, slot := 0, constantValue := 0 }, { name := "created", type := .long, accessFlags := 18, slot := 0, constantValue := 0 }, { name := "windowed", type := .long, accessFlags := 18, slot := 1, constantValue := 0 }, { name := "errors", type := .long, accessFlags := 18, slot := 2, constantValue := 0 }, { name := "firstError", type := (.object "java/lang/String"), accessFlags := 18, slot := 3, constantValue := 0 }]
  methods := #[k9m0, k9m1, k9m2, k9m3, k9m4]
  instanceTypes := #[.long, .long, .long, (.object "java/lang/String")]
  staticTypes := #[(.object "com/example/armor_for_retries/armorforretries/bench/Tally")]
  resolved := Array.replicate 57 none
  statics := none }

def pool10 : Array CpInfo := pool [(4, .class_ 6), (1, u "java/lang/Object"), (0, u "<init>"), (0, u "()V"), (5, .class_ 16), (1, u "java/lang/StringLatin1"), (104, u "$assertionsDisabled"), (0, u "Z"), (98, .class_ 223), (1, u "java/lang/StringLatin1$LinesSpliterator"), (166, .class_ 391), (0, u "java/lang/StringLatin1$CharsSpliterator")] 3

def k10m0 : Method := { name := "<init>", desc := "()V", sig := { parameters := [], returnType := none }, accessFlags := 0, code := none }
/-- java/lang/StringLatin1 -/
def k10 : Class := { plain "java/lang/StringLatin1" (some 0) with
  accessFlags := 48
  interfaces := #[]
  cf := some (fileOf pool10 14 #[.nestMembers #[390, 221]] #[{ accessFlags := 0, nameIndex := 7, descriptorIndex := 8, attributes := #[] }] 48 4 #[] #[{ accessFlags := 4120, nameIndex := 121, descriptorIndex := 122, attributes := #[] }])
  fields := #[{ name := "$assertionsDisabled", type := .boolean, accessFlags := 4120, slot := 0, constantValue := 0 }]
  methods := #[k10m0]
  instanceTypes := #[]
  staticTypes := #[.boolean]
  resolved := Array.replicate 395 none
  statics := none }

def pool11 : Array CpInfo := pool [(2, .class_ 4), (1, u "java/lang/Object"), (0, u "<init>"), (0, u "()V"), (17, .class_ 26), (1, u "jdk/internal/util/Preconditions"), (28, .class_ 56), (0, u "jdk/internal/util/Preconditions$4"), (57, .class_ 115), (0, u "jdk/internal/util/Preconditions$1"), (7, u "SIOOBE_FORMATTER"), (0, u "Ljava/util/function/BiFunction;"), (0, .class_ 126), (0, u "jdk/internal/util/Preconditions$2"), (3, u "AIOOBE_FORMATTER"), (0, .class_ 132), (0, u "jdk/internal/util/Preconditions$3"), (3, u "IOOBE_FORMATTER")] 57

def k11m0 : Method := { name := "<init>", desc := "()V", sig := { parameters := [], returnType := none }, accessFlags := 1, code := none }
/-- jdk/internal/util/Preconditions -/
def k11 : Class := { plain "jdk/internal/util/Preconditions" (some 0) with
  accessFlags := 33
  interfaces := #[]
  cf := some (fileOf pool11 24 #[.nestMembers #[55, 131, 125, 114]] #[{ accessFlags := 1, nameIndex := 5, descriptorIndex := 6, attributes := #[] }] 33 2 #[] #[{ accessFlags := 25, nameIndex := 123, descriptorIndex := 124, attributes := #[] }, { accessFlags := 25, nameIndex := 130, descriptorIndex := 124, attributes := #[] }, { accessFlags := 25, nameIndex := 136, descriptorIndex := 124, attributes := #[] }])
  fields := #[{ name := "SIOOBE_FORMATTER", type := (.object "java/util/function/BiFunction"), accessFlags := 25, slot := 0, constantValue := 0 }, { name := "AIOOBE_FORMATTER", type := (.object "java/util/function/BiFunction"), accessFlags := 25, slot := 1, constantValue := 0 }, { name := "IOOBE_FORMATTER", type := (.object "java/util/function/BiFunction"), accessFlags := 25, slot := 2, constantValue := 0 }]
  methods := #[k11m0]
  instanceTypes := #[]
  staticTypes := #[(.object "java/util/function/BiFunction"), (.object "java/util/function/BiFunction"), (.object "java/util/function/BiFunction")]
  resolved := Array.replicate 194 none
  statics := some 1 }

def pool12 : Array CpInfo := pool [(9, u "<init>"), (6, .class_ 18), (1, u "java/lang/Object"), (0, u "()V"), (1, .class_ 23), (1, u "jdk/internal/util/ArraysSupport"), (0, u "LOG2_ARRAY_LONG_INDEX_SCALE"), (0, u "I"), (2, u "U"), (0, u "Ljdk/internal/misc/Unsafe;"), (8, u "BIG_ENDIAN"), (0, u "Z"), (8, u "LOG2_BYTE_BIT_SIZE"), (4, u "LOG2_ARRAY_INT_INDEX_SCALE"), (54, u "JLA"), (0, u "Ljdk/internal/access/JavaLangAccess;"), (11, u "LOG2_ARRAY_BOOLEAN_INDEX_SCALE"), (9, u "LOG2_ARRAY_BYTE_INDEX_SCALE"), (5, u "LOG2_ARRAY_CHAR_INDEX_SCALE"), (5, u "LOG2_ARRAY_SHORT_INDEX_SCALE"), (18, u "LOG2_ARRAY_FLOAT_INDEX_SCALE"), (24, u "LOG2_ARRAY_DOUBLE_INDEX_SCALE"), (89, u "T_BOOLEAN"), (2, u "T_CHAR"), (1, u "T_FLOAT"), (1, u "T_DOUBLE"), (1, u "T_BYTE"), (1, u "T_SHORT"), (1, u "T_INT"), (1, u "T_LONG"), (1, u "SOFT_MAX_ARRAY_LENGTH")] 83

def k12m0 : Method := { name := "<init>", desc := "()V", sig := { parameters := [], returnType := none }, accessFlags := 2, code := none }
/-- jdk/internal/util/ArraysSupport -/
def k12 : Class := { plain "jdk/internal/util/ArraysSupport" (some 0) with
  accessFlags := 33
  interfaces := #[]
  cf := some (fileOf pool12 21 #[] #[{ accessFlags := 2, nameIndex := 9, descriptorIndex := 19, attributes := #[] }] 33 16 #[] #[{ accessFlags := 24, nameIndex := 28, descriptorIndex := 29, attributes := #[] }, { accessFlags := 26, nameIndex := 38, descriptorIndex := 39, attributes := #[] }, { accessFlags := 25, nameIndex := 121, descriptorIndex := 25, attributes := #[] }, { accessFlags := 25, nameIndex := 131, descriptorIndex := 25, attributes := #[] }, { accessFlags := 25, nameIndex := 137, descriptorIndex := 25, attributes := #[] }, { accessFlags := 25, nameIndex := 143, descriptorIndex := 25, attributes := #[] }, { accessFlags := 25, nameIndex := 53, descriptorIndex := 25, attributes := #[] }, { accessFlags := 25, nameIndex := 24, descriptorIndex := 25, attributes := #[] }, { accessFlags := 25, nameIndex := 162, descriptorIndex := 25, attributes := #[] }, { accessFlags := 25, nameIndex := 187, descriptorIndex := 25, attributes := #[] }, { accessFlags := 26, nameIndex := 48, descriptorIndex := 25, attributes := #[] }, { accessFlags := 25, nameIndex := 277, descriptorIndex := 25, attributes := #[] }, { accessFlags := 25, nameIndex := 280, descriptorIndex := 25, attributes := #[] }, { accessFlags := 25, nameIndex := 282, descriptorIndex := 25, attributes := #[] }, { accessFlags := 25, nameIndex := 284, descriptorIndex := 25, attributes := #[] }, { accessFlags := 25, nameIndex := 286, descriptorIndex := 25, attributes := #[] }, { accessFlags := 25, nameIndex := 288, descriptorIndex := 25, attributes := #[] }, { accessFlags := 25, nameIndex := 290, descriptorIndex := 25, attributes := #[] }, { accessFlags := 25, nameIndex := 292, descriptorIndex := 25, attributes := #[] }, { accessFlags := 26, nameIndex := 108, descriptorIndex := 109, attributes := #[] }, { accessFlags := 25, nameIndex := 294, descriptorIndex := 25, attributes := #[] }])
  fields := #[{ name := "U", type := (.object "jdk/internal/misc/Unsafe"), accessFlags := 24, slot := 0, constantValue := 0 }, { name := "BIG_ENDIAN", type := .boolean, accessFlags := 26, slot := 1, constantValue := 0 }, { name := "LOG2_ARRAY_BOOLEAN_INDEX_SCALE", type := .int, accessFlags := 25, slot := 2, constantValue := 0 }, { name := "LOG2_ARRAY_BYTE_INDEX_SCALE", type := .int, accessFlags := 25, slot := 3, constantValue := 0 }, { name := "LOG2_ARRAY_CHAR_INDEX_SCALE", type := .int, accessFlags := 25, slot := 4, constantValue := 0 }, { name := "LOG2_ARRAY_SHORT_INDEX_SCALE", type := .int, accessFlags := 25, slot := 5, constantValue := 0 }, { name := "LOG2_ARRAY_INT_INDEX_SCALE", type := .int, accessFlags := 25, slot := 6, constantValue := 0 }, { name := "LOG2_ARRAY_LONG_INDEX_SCALE", type := .int, accessFlags := 25, slot := 7, constantValue := 0 }, { name := "LOG2_ARRAY_FLOAT_INDEX_SCALE", type := .int, accessFlags := 25, slot := 8, constantValue := 0 }, { name := "LOG2_ARRAY_DOUBLE_INDEX_SCALE", type := .int, accessFlags := 25, slot := 9, constantValue := 0 }, { name := "LOG2_BYTE_BIT_SIZE", type := .int, accessFlags := 26, slot := 10, constantValue := 0 }, { name := "T_BOOLEAN", type := .int, accessFlags := 25, slot := 11, constantValue := 0 }, { name := "T_CHAR", type := .int, accessFlags := 25, slot := 12, constantValue := 0 }, { name := "T_FLOAT", type := .int, accessFlags := 25, slot := 13, constantValue := 0 }, { name := "T_DOUBLE", type := .int, accessFlags := 25, slot := 14, constantValue := 0 }, { name := "T_BYTE", type := .int, accessFlags := 25, slot := 15, constantValue := 0 }, { name := "T_SHORT", type := .int, accessFlags := 25, slot := 16, constantValue := 0 }, { name := "T_INT", type := .int, accessFlags := 25, slot := 17, constantValue := 0 }, { name := "T_LONG", type := .int, accessFlags := 25, slot := 18, constantValue := 0 }, { name := "JLA", type := (.object "jdk/internal/access/JavaLangAccess"), accessFlags := 26, slot := 19, constantValue := 0 }, { name := "SOFT_MAX_ARRAY_LENGTH", type := .int, accessFlags := 25, slot := 20, constantValue := 0 }]
  methods := #[k12m0]
  instanceTypes := #[]
  staticTypes := #[(.object "jdk/internal/misc/Unsafe"), .boolean, .int, .int, .int, .int, .int, .int, .int, .int, .int, .int, .int, .int, .int, .int, .int, .int, .int, (.object "jdk/internal/access/JavaLangAccess"), .int]
  resolved := Array.replicate 378 none
  statics := none }

def pool13 : Array CpInfo := pool [(1, u "java/lang/Cloneable"), (0, .class_ 1), (0, u "java/lang/Object"), (0, .class_ 3)] 3

/-- java/lang/Cloneable -/
def k13 : Class := { plain "java/lang/Cloneable" (some 0) with
  accessFlags := 1537
  interfaces := #[]
  cf := some (fileOf pool13 2 #[] #[] 1537 4 #[] #[])
  fields := #[]
  methods := #[]
  instanceTypes := #[]
  staticTypes := #[]
  resolved := Array.replicate 8 none
  statics := none }

/-- the primitive byte -/
def k14 : Class := { plain "byte" none with kind := .primitive 'B', accessFlags := 0x411 }
/-- [B -/
def k15 : Class := { plain "[B" (some 0) with kind := .array 14 .byte, interfaces := #[13, 2], accessFlags := 1041 }

/-- the primitive char -/
def k16 : Class := { plain "char" none with kind := .primitive 'C', accessFlags := 0x411 }
/-- [C -/
def k17 : Class := { plain "[C" (some 0) with kind := .array 16 .char, interfaces := #[13, 2], accessFlags := 1041 }

/-- the primitive int -/
def k18 : Class := { plain "int" none with kind := .primitive 'I', accessFlags := 0x411 }
/-- [I -/
def k19 : Class := { plain "[I" (some 0) with kind := .array 18 .int, interfaces := #[13, 2], accessFlags := 1041 }

def heap : Heap := #[{ cls := 7, slots := #[.long 0, .int 1, .null, .int 0, .null, .int 0, .int 0], vm := .statics 7 },
  { cls := 11, slots := #[.null, .null, .null], vm := .statics 11 }]
def classes : Array Class := #[k0, k1, k2, k3, k4, k5, k6, k7, k8, k9, k10, k11, k12, k13, k14, k15, k16, k17, k18, k19]
def interned : List (Array UInt16 × Addr) := []
def slotsUsed : Nat := 10
def theMethod : MethodId := ⟨1, 1⟩
def args0 : Array Value := #[.long 5, .long 6, .long 7, .long 8, .long 9, .int 3]
def aboutOver (below : List Frame) : State where
  vm := { classes := classes, interned := interned.toArray }
  heap := heap
  slotsUsed := slotsUsed
  threads := #[{ frames := .invoking theMethod args0 :: below }]
def below0 : List Frame := [.native { method := ⟨0, 0⟩, args := #[] }]
def about1 : State := aboutOver below0
def p0 : Program := .bare "" "" ""
def e0 : Env := launch0.env 0 0 0
theorem w_frames : about1.frames = Frame.invoking theMethod args0 :: below0 := rfl
set_option maxRecDepth 65536 in
theorem w_args : argsFit about1.vm theMethod args0 = true := by decide +kernel
set_option maxRecDepth 65536 in
theorem w_heap : heapFits about1 = true := by decide +kernel
set_option maxRecDepth 65536 in
theorem w_runnable : about1.curStatus? = some .runnable := by decide +kernel
set_option maxRecDepth 65536 in
theorem w_alone : about1.alone = true := by decide +kernel
set_option maxRecDepth 65536 in
theorem w_named : about1.methodNamed? x = some theMethod := by decide +kernel
set_option maxRecDepth 65536 in
theorem w_hears : about1.hears theMethod below0 = true := by decide +kernel
set_option maxRecDepth 65536 in
theorem w_ripe : about1.ripe theMethod args0 below0 = true := by decide +kernel
theorem w_running : about1.status = .running := rfl
set_option maxRecDepth 65536 in
theorem w_room : about1.hasRoom e0.platform room_1 = true :=
  launch0.hasRoom_least _ room_1 (by decide +kernel) (by decide +kernel) (by decide +kernel) (by decide +kernel) (by decide +kernel) (by decide +kernel)
theorem allAtoms_all (ts : List Jvm.Cond) (a : Array Jvm.Value) (st : Jvm.State) : (allAtoms ts).before a st = ts.all (fun c => c.before a st) := by
  induction ts with
  | nil => rfl
  | cons c t ih =>
    show (Jvm.Cond.and c (allAtoms t)).before a st = _
    rw [Jvm.Cond.before_and, ih, List.all_cons]
def words1 : List Jvm.Cond := Jvm.Cond.code x code maxLocals ret :: tables_1
/-- a 'code' word, met by the world's own term for the bytes: nothing is compared byte by byte -/
theorem code_word {y : MethodName} {bytes : ByteArray} {mx : Nat} {rt : Option FieldType} {a : Array Value} {s : State} {m : MethodId} {meth : Method} {c : Code} (h1 : s.methodNamed? y = some m) (h2 : s.vm.method? m = some meth) (h3 : meth.code = some c) (h4 : c.code = bytes)
    (h5 : (c.maxLocals == mx && c.exceptionTable.isEmpty && decide (c.maxStack ≤ mostOperands) && decide (meth.sig.returnType = rt) && !meth.locks && decide (parseMethodDescriptor y.desc = some meth.sig)) = true) : (Jvm.Cond.code y bytes mx rt).before a s = true := by
  simp only [Bool.and_eq_true, beq_iff_eq, Bool.not_eq_true', decide_eq_true_eq] at h5
  obtain ⟨⟨⟨⟨⟨g1, g2⟩, g3⟩, g4⟩, g5⟩, g6⟩ := h5
  simp [Cond.before, Cond.holds, Cond.value, h1, h2, h3, h4, g1, g2, g3, g4, g5, g6]
def isCode : Jvm.Cond → Bool
  | .code _ _ _ _ => true
  | _ => false
theorem all_split {L : List Jvm.Cond} {P : Jvm.Cond → Bool} (h1 : L.all (fun c => isCode c || P c) = true) (h2 : ∀ c ∈ L.filter isCode, P c = true) : L.all P = true := by
  refine List.all_eq_true.mpr fun c hc => ?_
  have h := List.all_eq_true.mp h1 c hc
  rcases Bool.eq_false_or_eq_true (isCode c) with hi | hi
  · exact h2 c (List.mem_filter.mpr ⟨hc, hi⟩)
  · simpa [hi] using h
set_option maxRecDepth 65536 in
theorem w_c0 : (Jvm.Cond.code x code maxLocals ret).before args0 about1 = true := code_word (m := ⟨1, 1⟩) (meth := k1m1) (c := k1c1) (by decide +kernel) rfl rfl rfl (by decide +kernel)
set_option maxRecDepth 65536 in
theorem w_c1 : (Jvm.Cond.code ({ cls := "java/lang/String", name := "<init>", desc := "([C)V" } : Jvm.MethodName) jdk_42_method_3_code (2 : Nat) (Option.none : Option Jvm.ClassFile.FieldType)).before args0 about1 = true := code_word (m := ⟨7, 1⟩) (meth := k7m1) (c := k7c1) (by decide +kernel) rfl rfl rfl (by decide +kernel)
set_option maxRecDepth 65536 in
theorem w_c2 : (Jvm.Cond.code ({ cls := "java/lang/String", name := "<init>", desc := "([CIILjava/lang/Void;)V" } : Jvm.MethodName) jdk_42_method_149_code (6 : Nat) (Option.none : Option Jvm.ClassFile.FieldType)).before args0 about1 = true := code_word (m := ⟨7, 2⟩) (meth := k7m2) (c := k7c2) (by decide +kernel) rfl rfl rfl (by decide +kernel)
set_option maxRecDepth 65536 in
theorem w_c3 : (Jvm.Cond.code ({ cls := "java/lang/Object", name := "<init>", desc := "()V" } : Jvm.MethodName) object_method_1_code (1 : Nat) (Option.none : Option Jvm.ClassFile.FieldType)).before args0 about1 = true := code_word (m := ⟨0, 0⟩) (meth := k0m0) (c := k0c0) (by decide +kernel) rfl rfl rfl (by decide +kernel)
set_option maxRecDepth 65536 in
theorem w_c4 : (Jvm.Cond.code ({ cls := "java/lang/StringUTF16", name := "compress", desc := "([CII)[B" } : Jvm.MethodName) jdk_52_method_16_code (6 : Nat) (Option.some (Jvm.ClassFile.FieldType.array Jvm.ClassFile.FieldType.byte))).before args0 about1 = true := code_word (m := ⟨8, 2⟩) (meth := k8m2) (c := k8c2) (by decide +kernel) rfl rfl rfl (by decide +kernel)
set_option maxRecDepth 65536 in
theorem w_c5 : (Jvm.Cond.code ({ cls := "java/lang/StringUTF16", name := "compress", desc := "([CI[BII)I" } : Jvm.MethodName) jdk_52_method_21_code (7 : Nat) (Option.some Jvm.ClassFile.FieldType.int)).before args0 about1 = true := code_word (m := ⟨8, 3⟩) (meth := k8m3) (c := k8c3) (by decide +kernel) rfl rfl rfl (by decide +kernel)
set_option maxRecDepth 65536 in
theorem w_c6 : (Jvm.Cond.code ({ cls := "java/lang/StringUTF16", name := "coderFromArrayLen", desc := "([BI)B" } : Jvm.MethodName) jdk_52_method_15_code (2 : Nat) (Option.some Jvm.ClassFile.FieldType.byte)).before args0 about1 = true := code_word (m := ⟨8, 1⟩) (meth := k8m1) (c := k8c1) (by decide +kernel) rfl rfl rfl (by decide +kernel)
set_option maxRecDepth 65536 in
theorem w_c7 : (Jvm.Cond.code ({ cls := "com/example/armor_for_retries/armorforretries/bench/Tally", name := "<init>", desc := "(JJJLjava/lang/String;)V" } : Jvm.MethodName) prog_35_method_1_code (8 : Nat) (Option.none : Option Jvm.ClassFile.FieldType)).before args0 about1 = true := code_word (m := ⟨9, 0⟩) (meth := k9m0) (c := k9c0) (by decide +kernel) rfl rfl rfl (by decide +kernel)
set_option maxRecDepth 65536 in
theorem w_c8 : (Jvm.Cond.code ({ cls := "com/example/armor_for_retries/armorforretries/bench/Tally", name := "plus", desc := "(Lcom/example/armor_for_retries/armorforretries/bench/Tally;)Lcom/example/armor_for_retries/armorforretries/bench/Tally;" } : Jvm.MethodName) prog_35_method_2_code (2 : Nat) (Option.some (Jvm.ClassFile.FieldType.object "com/example/armor_for_retries/armorforretries/bench/Tally"))).before args0 about1 = true := code_word (m := ⟨9, 1⟩) (meth := k9m1) (c := k9c1) (by decide +kernel) rfl rfl rfl (by decide +kernel)
set_option maxRecDepth 65536 in
theorem w_c9 : (Jvm.Cond.code ({ cls := "com/example/armor_for_retries/armorforretries/bench/Tally", name := "created", desc := "()J" } : Jvm.MethodName) prog_35_method_3_code (1 : Nat) (Option.some Jvm.ClassFile.FieldType.long)).before args0 about1 = true := code_word (m := ⟨9, 2⟩) (meth := k9m2) (c := k9c2) (by decide +kernel) rfl rfl rfl (by decide +kernel)
set_option maxRecDepth 65536 in
theorem w_c10 : (Jvm.Cond.code ({ cls := "com/example/armor_for_retries/armorforretries/bench/Tally", name := "errors", desc := "()J" } : Jvm.MethodName) prog_35_method_4_code (1 : Nat) (Option.some Jvm.ClassFile.FieldType.long)).before args0 about1 = true := code_word (m := ⟨9, 3⟩) (meth := k9m3) (c := k9c3) (by decide +kernel) rfl rfl rfl (by decide +kernel)
set_option maxRecDepth 65536 in
theorem w_c11 : (Jvm.Cond.code ({ cls := "com/example/armor_for_retries/armorforretries/bench/Tally", name := "firstError", desc := "()Ljava/lang/String;" } : Jvm.MethodName) prog_35_method_5_code (1 : Nat) (Option.some (Jvm.ClassFile.FieldType.object "java/lang/String"))).before args0 about1 = true := code_word (m := ⟨9, 4⟩) (meth := k9m4) (c := k9c4) (by decide +kernel) rfl rfl rfl (by decide +kernel)
def codes1 : List Jvm.Cond := [Jvm.Cond.code x code maxLocals ret, Jvm.Cond.code ({ cls := "java/lang/String", name := "<init>", desc := "([C)V" } : Jvm.MethodName) jdk_42_method_3_code (2 : Nat) (Option.none : Option Jvm.ClassFile.FieldType), Jvm.Cond.code ({ cls := "java/lang/String", name := "<init>", desc := "([CIILjava/lang/Void;)V" } : Jvm.MethodName) jdk_42_method_149_code (6 : Nat) (Option.none : Option Jvm.ClassFile.FieldType), Jvm.Cond.code ({ cls := "java/lang/Object", name := "<init>", desc := "()V" } : Jvm.MethodName) object_method_1_code (1 : Nat) (Option.none : Option Jvm.ClassFile.FieldType), Jvm.Cond.code ({ cls := "java/lang/StringUTF16", name := "compress", desc := "([CII)[B" } : Jvm.MethodName) jdk_52_method_16_code (6 : Nat) (Option.some (Jvm.ClassFile.FieldType.array Jvm.ClassFile.FieldType.byte)), Jvm.Cond.code ({ cls := "java/lang/StringUTF16", name := "compress", desc := "([CI[BII)I" } : Jvm.MethodName) jdk_52_method_21_code (7 : Nat) (Option.some Jvm.ClassFile.FieldType.int), Jvm.Cond.code ({ cls := "java/lang/StringUTF16", name := "coderFromArrayLen", desc := "([BI)B" } : Jvm.MethodName) jdk_52_method_15_code (2 : Nat) (Option.some Jvm.ClassFile.FieldType.byte), Jvm.Cond.code ({ cls := "com/example/armor_for_retries/armorforretries/bench/Tally", name := "<init>", desc := "(JJJLjava/lang/String;)V" } : Jvm.MethodName) prog_35_method_1_code (8 : Nat) (Option.none : Option Jvm.ClassFile.FieldType), Jvm.Cond.code ({ cls := "com/example/armor_for_retries/armorforretries/bench/Tally", name := "plus", desc := "(Lcom/example/armor_for_retries/armorforretries/bench/Tally;)Lcom/example/armor_for_retries/armorforretries/bench/Tally;" } : Jvm.MethodName) prog_35_method_2_code (2 : Nat) (Option.some (Jvm.ClassFile.FieldType.object "com/example/armor_for_retries/armorforretries/bench/Tally")), Jvm.Cond.code ({ cls := "com/example/armor_for_retries/armorforretries/bench/Tally", name := "created", desc := "()J" } : Jvm.MethodName) prog_35_method_3_code (1 : Nat) (Option.some Jvm.ClassFile.FieldType.long), Jvm.Cond.code ({ cls := "com/example/armor_for_retries/armorforretries/bench/Tally", name := "errors", desc := "()J" } : Jvm.MethodName) prog_35_method_4_code (1 : Nat) (Option.some Jvm.ClassFile.FieldType.long), Jvm.Cond.code ({ cls := "com/example/armor_for_retries/armorforretries/bench/Tally", name := "firstError", desc := "()Ljava/lang/String;" } : Jvm.MethodName) prog_35_method_5_code (1 : Nat) (Option.some (Jvm.ClassFile.FieldType.object "java/lang/String"))]
set_option maxRecDepth 65536 in
theorem codes_eq : words1.filter isCode = codes1 := rfl
theorem w_codes : ∀ c ∈ words1.filter isCode, c.before args0 about1 = true := by
  rw [codes_eq]
  intro c hc
  simp only [codes1, List.mem_cons, List.not_mem_nil, or_false] at hc
  rcases hc with rfl | rfl | rfl | rfl | rfl | rfl | rfl | rfl | rfl | rfl | rfl | rfl
  · exact w_c0
  · exact w_c1
  · exact w_c2
  · exact w_c3
  · exact w_c4
  · exact w_c5
  · exact w_c6
  · exact w_c7
  · exact w_c8
  · exact w_c9
  · exact w_c10
  · exact w_c11
set_option maxRecDepth 65536 in
theorem w_t1 : (words1.take 24).all (fun c => isCode c || c.before args0 about1) = true := by decide +kernel
set_option maxRecDepth 65536 in
theorem w_t2 : ((words1.drop 24).take 24).all (fun c => isCode c || c.before args0 about1) = true := by decide +kernel
set_option maxRecDepth 65536 in
theorem w_t3 : ((words1.drop 24).drop 24).all (fun c => isCode c || c.before args0 about1) = true := by decide +kernel
theorem w_tables : (allAtoms (Jvm.Cond.code x code maxLocals ret :: tables_1)).before args0 about1 = true := by
  rw [allAtoms_all]
  show words1.all (fun c => c.before args0 about1) = true
  refine all_split ?_ w_codes
  rw [← List.take_append_drop 24 words1, List.all_append, w_t1, ← List.take_append_drop 24 (words1.drop 24), List.all_append, w_t2, w_t3]
  rfl
set_option maxRecDepth 65536 in
theorem w_rest : rest_1_c.before args0 about1 = true := by decide +kernel
set_option maxRecDepth 65536 in
theorem w_case : (Jvm.Cond.and given_1 narrow_1).before args0 about1 = true := by decide +kernel
theorem w_applies : (headSpec (Jvm.Cond.code x code maxLocals ret :: tables_1) room_1).applies x e0.platform about1 = true :=
  (Spec.applies_iff w_frames).mpr ⟨w_running, w_runnable, w_alone, w_named, w_hears, w_ripe, w_room, w_tables⟩
theorem atStart : AtStart classFile x code maxLocals ret World_1 tables_1 room_1 Calls_1 rest_1 Pre_1 launch0 p0 e0 about1 theMethod args0 below0 :=
  ⟨lists_1, trivial, launch0.admits_env _ _ _, launch0.least_env, fairChoices_fair.cas, fairChoices_fair.clock, w_frames, w_args, w_heap, w_applies, trivial, w_rest, w_case⟩
end start1
theorem witness_1 : WitnessClaimed_1 := ⟨start1.p0, start1.e0, start1.about1, start1.theMethod, start1.args0, start1.below0, start1.atStart⟩
end Jvm.Pilot.@@N@@
