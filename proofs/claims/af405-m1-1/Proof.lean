import JvmDerived
import JvmDerived.Pilot.@@N@@Statement
import JvmDerived.Pilot.@@N@@Code
set_option linter.unusedVariables false
set_option linter.unusedSimpArgs false
/- laws to paste: Road.backV (cut by pick.py; bodies as the Statement names them) -/
namespace Jvm.Pilot.@@N@@
namespace StrChars
open Jvm Sem ClassFile Op Lib Jvm.Stand Jvm.Free.XT Jvm.Free.ALB Jvm.Free.JM Jvm.Free
open Jvm.Lib.Cold (StaticIs)
/-- a char array whose places are chars -/
def Ch (a : Addr) (A : Cell) (U : State) : Prop := Arr .char a A U ∧ Typed .char A
theorem Ch.mv {a : Addr} {A : Cell} {U U' : State} (h : Ch a A U) (hal : U.vm.Alike U'.vm) (hh : U'.heap = U.heap) : Ch a A U' := ⟨h.1.mv hal hh, h.2⟩
theorem Ch.keep {a : Addr} {A : Cell} {U U' : State} (h : Ch a A U) (hal : U.vm.Alike U'.vm) (hk : U'.heap[a]? = some A) : Ch a A U' := ⟨h.1.keep hal hk, h.2⟩
/-- what place i of a char[]'s cell holds -/
def cv (A : Cell) (i : Nat) : Int32 := match A.slots[i]? with | some (.int x) => x | _ => 0
theorem Ch.get {a : Addr} {A : Cell} {U : State} (h : Ch a A U) {i : Nat} (hi : i < A.slots.size) : A.slots[i]? = some (.int (cv A i)) := by
  have e := Array.getElem?_eq_getElem hi
  have f := h.2 i _ e
  unfold cv; rw [e]
  generalize A.slots[i] = v at f
  cases v <;> simp [fits] at f ⊢
/-- the byte that i2b leaves of a char -/
def lo8 (x : Int32) : Int32 := x.toInt8.toInt32
theorem fits_lo8 (y : Int32) : fits .byte (.int (lo8 y)) = true := by
  have h1 := y.toInt8.le_toInt
  have h2 := y.toInt8.toInt_lt
  simp only [lo8, fits, Bool.and_eq_true, decide_eq_true_eq, Int32.le_iff_toInt_le, Int8.toInt_toInt32, show (-128 : Int32).toInt = -128 from by decide, show (127 : Int32).toInt = 127 from by decide]
  omega
/-- A' is A but that each place j of lo .. hi - 1 holds f j -/
def Laid (A A' : Cell) (lo hi : Nat) (f : Nat → Value) : Prop := A'.cls = A.cls ∧ A'.vm = A.vm ∧ A'.slots.size = A.slots.size ∧ ∀ i, A'.slots[i]? = if lo ≤ i ∧ i < hi then some (f i) else A.slots[i]?
theorem Laid.zero (A : Cell) (lo : Nat) (f : Nat → Value) : Laid A A lo (lo + 0) f := ⟨rfl, rfl, rfl, fun i => by rw [if_neg (by omega)]⟩
theorem Laid.step {A Ak : Cell} {lo k : Nat} {f : Nat → Value} {v : Value} (h : Laid A Ak lo k f) (hlo : lo ≤ k) (hk : k < Ak.slots.size) (hv : v = f k) : Laid A (Ak.setSlot k v) lo (k + 1) f := by
  refine ⟨h.1, h.2.1, by simpa [Cell.setSlot] using h.2.2.1, fun i => ?_⟩
  by_cases e : k = i
  · subst e; rw [Cell.slots_setSlot_self v hk, if_pos (by omega), hv]
  · rw [Cell.slots_setSlot_ne v e, h.2.2.2 i]
    by_cases q : lo ≤ i ∧ i < k
    · rw [if_pos q, if_pos (by omega)]
    · rw [if_neg q, if_neg (by omega)]
def U16 : String := "java/lang/StringUTF16"
namespace Cmp5
def yN : MethodName := ⟨"java/lang/StringUTF16", "compress", "([CI[BII)I"⟩
abbrev yB : ByteArray := jdk_52_method_21_code
theorem d0 : decode yB 0 = .ok (.iconst 0, 1) := by decide +kernel
theorem d1 : decode yB 1 = .ok (.istore 5, 2) := by decide +kernel
theorem d3 : decode yB 3 = .ok (.iload 5, 2) := by decide +kernel
theorem d5 : decode yB 5 = .ok (.iload 4, 2) := by decide +kernel
theorem d7 : decode yB 7 = .ok (.if_icmp (.ge) 37, 3) := by decide +kernel
theorem d10 : decode yB 10 = .ok (.aload_n 0, 1) := by decide +kernel
theorem d11 : decode yB 11 = .ok (.iload_n 1, 1) := by decide +kernel
theorem d12 : decode yB 12 = .ok (.caload, 1) := by decide +kernel
theorem d13 : decode yB 13 = .ok (.istore 6, 2) := by decide +kernel
theorem d15 : decode yB 15 = .ok (.iload 6, 2) := by decide +kernel
theorem d17 : decode yB 17 = .ok (.sipush 255, 3) := by decide +kernel
theorem d20 : decode yB 20 = .ok (.if_icmp (.le) 6, 3) := by decide +kernel
theorem d26 : decode yB 26 = .ok (.aload_n 2, 1) := by decide +kernel
theorem d27 : decode yB 27 = .ok (.iload_n 3, 1) := by decide +kernel
theorem d28 : decode yB 28 = .ok (.iload 6, 2) := by decide +kernel
theorem d30 : decode yB 30 = .ok (.i2b, 1) := by decide +kernel
theorem d31 : decode yB 31 = .ok (.bastore, 1) := by decide +kernel
theorem d32 : decode yB 32 = .ok (.iinc 1 1, 3) := by decide +kernel
theorem d35 : decode yB 35 = .ok (.iinc 3 1, 3) := by decide +kernel
theorem d38 : decode yB 38 = .ok (.iinc 5 1, 3) := by decide +kernel
theorem d41 : decode yB 41 = .ok (.goto (-38), 3) := by decide +kernel
theorem d44 : decode yB 44 = .ok (.iload 4, 2) := by decide +kernel
theorem d46 : decode yB 46 = .ok (.ireturn, 1) := by decide +kernel
def site : List Cond := []
def tab : Cond := tabOf yN yB 7 (some .int) site
def P (b : Addr) (A : Cell) (d : Addr) (B : Cell) (o q len : Nat) (args : Array Value) (s : State) : Prop := args = #[.ref b, .int (Int32.ofNat o), .ref d, .int (Int32.ofNat q), .int (Int32.ofNat len)] ∧ Ch b A s ∧ Arr .byte d B s ∧ b ≠ d ∧ o + len ≤ A.slots.size ∧ q + len ≤ B.slots.size ∧ ∀ i, i < len → ¬ 255 < cv A (o + i)
def E (b : Addr) (A : Cell) (d : Addr) (B : Cell) (o q len : Nat) (r : Option Value) (s u : State) : Prop := r = some (.int (Int32.ofNat len)) ∧ ∃ B', Put d B' s u ∧ Laid B B' q (q + len) (fun j => Value.int (lo8 (cv A (o + (j - q)))))
/-- no char of the range above 255: len; the places written hold each char's low byte -/
theorem law (l : Launch) (b : Addr) (A : Cell) (d : Addr) (B : Cell) (o q len : Nat) : Law l yN 5 5 0 0 yB 7 (some .int) site (P b A d B o q len) (E b A d B o q len) (copyLocs d q len) 0 0 := by
  refine Law.of_walk (plainFor_of_name (by decide +kernel)) (by decide +kernel) (by decide +kernel) (by decide) (fun _ _ h => by rw [h.1]; rfl) (fun _ U U' hal hh h => ⟨h.1, h.2.1.mv hal hh, h.2.2.1.mv hal hh, h.2.2.2⟩) (fun r U U' V V' h1 hal h2 h => ⟨h.1, h.2.elim fun B' q => ⟨B', q.1.mv h1 h2, q.2⟩⟩) ?_
  intro p e s m args below meth c s₁ X0 hexec hbytes hml hret hlk hnm hown hh0 W hP
  obtain ⟨rfl, hA, hB, hne, l1, l2, hp⟩ := hP
  have c1 : Steps p.tables e below (s₁.setTop (entryFrame m #[.ref b, .int (Int32.ofNat o), .ref d, .int (Int32.ofNat q), .int (Int32.ofNat len)] 7)) (s₁.setTop (mkF m 0 #[.val (.ref b), .val (.int (Int32.ofNat o)), .val (.ref d), .val (.int (Int32.ofNat q)), .val (.int (Int32.ofNat len)), .unset, .unset] [])) := entry rfl
  have hA0 := hA.1.mv X0.warmed.alike hh0
  have hB0 := hB.mv X0.warmed.alike hh0
  have a31 := hA.1.2.2.2
  have c2 : Steps p.tables e below (s₁.setTop (entryFrame m #[.ref b, .int (Int32.ofNat o), .ref d, .int (Int32.ofNat q), .int (Int32.ofNat len)] 7)) (s₁.setTop (mkF m 3 #[.val (.ref b), .val (.int (Int32.ofNat o)), .val (.ref d), .val (.int (Int32.ofNat q)), .val (.int (Int32.ofNat len)), .val (.int 0), .unset] [])) := c1.trans (by
    refine iconstV X0.here hexec rfl 0 (hb hbytes d0) (by decide) ?_
    refine XS.istore X0.here hexec rfl (hb hbytes d1) rfl rfl ?_
    exact Steps.refl _)
  have loop : ∀ (r i : Nat), i + r = len → ∀ (z : Slot), (z = .unset ∨ ∃ w, z = .val w ∧ w.category = 1) → ∀ (Tl : State) (Bk : Cell), Stand p l e { frames := 0, locals := 0, cells := 0, slots := 0 } s m #[.ref b, .int (Int32.ofNat o), .ref d, .int (Int32.ofNat q), .int (Int32.ofNat len)] below meth c Tl ([] ++ copyLocs d q i) 0 0 → Put d Bk s₁ Tl → Laid B Bk q (q + i) (fun j => Value.int (lo8 (cv A (o + (j - q))))) →
      Steps p.tables e below (s₁.setTop (entryFrame m #[.ref b, .int (Int32.ofNat o), .ref d, .int (Int32.ofNat q), .int (Int32.ofNat len)] 7)) (Tl.setTop (mkF m 3 #[.val (.ref b), .val (.int (Int32.ofNat (o + i))), .val (.ref d), .val (.int (Int32.ofNat (q + i))), .val (.int (Int32.ofNat len)), .val (.int (Int32.ofNat i)), z] [])) → ∃ (T' : State) (B' : Cell) (z' : Slot), Stand p l e { frames := 0, locals := 0, cells := 0, slots := 0 } s m #[.ref b, .int (Int32.ofNat o), .ref d, .int (Int32.ofNat q), .int (Int32.ofNat len)] below meth c T' ([] ++ copyLocs d q len) 0 0 ∧ Put d B' s₁ T' ∧ Laid B B' q (q + len) (fun j => Value.int (lo8 (cv A (o + (j - q))))) ∧
      Steps p.tables e below (s₁.setTop (entryFrame m #[.ref b, .int (Int32.ofNat o), .ref d, .int (Int32.ofNat q), .int (Int32.ofNat len)] 7)) (T'.setTop (mkF m 3 #[.val (.ref b), .val (.int (Int32.ofNat (o + len))), .val (.ref d), .val (.int (Int32.ofNat (q + len))), .val (.int (Int32.ofNat len)), .val (.int (Int32.ofNat len)), z'] [])) := by
    intro r
    induction r with
    | zero =>
      intro i hi z hz Tl Bk Xl pl fl cl
      have hil : i = len := by omega
      rw [hil] at Xl fl cl
      exact ⟨Tl, Bk, z, Xl, pl, fl, cl⟩
    | succ r ih =>
      intro i hi z hz Tl Bk Xl pl fl cl
      have all := X0.warmed.alike.symm.trans Xl.warmed.alike
      have hAl := hA0.keep all (pl.other hne hA0.1)
      have hBk := hB0.like all pl.1 fl.1 fl.2.1 fl.2.2.1
      have hlt : q + i < Bk.slots.size := by rw [fl.2.2.1]; omega
      have c3 : Steps p.tables e below (s₁.setTop (entryFrame m #[.ref b, .int (Int32.ofNat o), .ref d, .int (Int32.ofNat q), .int (Int32.ofNat len)] 7)) (Tl.setTop (mkF m 12 #[.val (.ref b), .val (.int (Int32.ofNat (o + i))), .val (.ref d), .val (.int (Int32.ofNat (q + i))), .val (.int (Int32.ofNat len)), .val (.int (Int32.ofNat i)), z] [.int (Int32.ofNat (o + i)), .ref b])) := cl.trans (by
        refine XS.iload Xl.here hexec rfl (hb hbytes d3) rfl ?_
        refine XS.iload Xl.here hexec rfl (hb hbytes d5) rfl ?_
        refine XS.icmpNo Xl.here hexec rfl (hb hbytes d7) rfl (ii_ge_f (lt32 (by omega) (by omega))) ?_
        refine XS.aloadN Xl.here hexec rfl (hb hbytes d10) rfl rfl ?_
        refine XS.iloadN Xl.here hexec rfl (hb hbytes d11) rfl ?_
        exact Steps.refl _)
      have c4 : Steps p.tables e below (s₁.setTop (entryFrame m #[.ref b, .int (Int32.ofNat o), .ref d, .int (Int32.ofNat q), .int (Int32.ofNat len)] 7)) (Tl.setTop (mkF m 13 #[.val (.ref b), .val (.int (Int32.ofNat (o + i))), .val (.ref d), .val (.int (Int32.ofNat (q + i))), .val (.int (Int32.ofNat len)), .val (.int (Int32.ofNat i)), z] [.int (cv A (o + i))])) := c3.trans (by
        refine Xl.aget hexec hAl rfl (hA.get (i := o + i) (by omega)) rfl rfl (hb hbytes d12) ?_
        exact Steps.refl _)
      have c5 : Steps p.tables e below (s₁.setTop (entryFrame m #[.ref b, .int (Int32.ofNat o), .ref d, .int (Int32.ofNat q), .int (Int32.ofNat len)] 7)) (Tl.setTop (mkF m 15 #[.val (.ref b), .val (.int (Int32.ofNat (o + i))), .val (.ref d), .val (.int (Int32.ofNat (q + i))), .val (.int (Int32.ofNat len)), .val (.int (Int32.ofNat i)), .val (.int (cv A (o + i)))] [])) := c4.trans (by
        refine XS.istoreS Xl.here hexec rfl (hb hbytes d13) rfl rfl hz ?_
        exact Steps.refl _)
      have c6 : Steps p.tables e below (s₁.setTop (entryFrame m #[.ref b, .int (Int32.ofNat o), .ref d, .int (Int32.ofNat q), .int (Int32.ofNat len)] 7)) (Tl.setTop (mkF m 31 #[.val (.ref b), .val (.int (Int32.ofNat (o + i))), .val (.ref d), .val (.int (Int32.ofNat (q + i))), .val (.int (Int32.ofNat len)), .val (.int (Int32.ofNat i)), .val (.int (cv A (o + i)))] [.int (lo8 (cv A (o + i))), .int (Int32.ofNat (q + i)), .ref d])) := c5.trans (by
        refine XS.iload Xl.here hexec rfl (hb hbytes d15) rfl ?_
        refine sipushV Xl.here hexec rfl 255 (hb hbytes d17) (by decide) ?_
        refine XS.icmpYes Xl.here hexec rfl (pc0 := 20) rfl (hb hbytes d20) rfl (ii_le_t (hp i (by omega))) (by decide) rfl ?_
        refine XS.aloadN Xl.here hexec rfl (hb hbytes d26) rfl rfl ?_
        refine XS.iloadN Xl.here hexec rfl (hb hbytes d27) rfl ?_
        refine XS.iload Xl.here hexec rfl (hb hbytes d28) rfl ?_
        refine i2b Xl.here hexec rfl (hb hbytes d30) rfl ?_
        exact Steps.refl _)
      obtain ⟨T7, X7, p7, st7⟩ := Xl.aput hexec hBk rfl hlt rfl (fits_lo8 (cv A (o + i))) (g := (mkF m 31 #[.val (.ref b), .val (.int (Int32.ofNat (o + i))), .val (.ref d), .val (.int (Int32.ofNat (q + i))), .val (.int (Int32.ofNat len)), .val (.int (Int32.ofNat i)), .val (.int (cv A (o + i)))] [.int (lo8 (cv A (o + i))), .int (Int32.ofNat (q + i)), .ref d])) rfl (rest := []) rfl (hb hbytes d31)
      have c8 : Steps p.tables e below (s₁.setTop (entryFrame m #[.ref b, .int (Int32.ofNat o), .ref d, .int (Int32.ofNat q), .int (Int32.ofNat len)] 7)) (T7.setTop (mkF m 32 #[.val (.ref b), .val (.int (Int32.ofNat (o + i))), .val (.ref d), .val (.int (Int32.ofNat (q + i))), .val (.int (Int32.ofNat len)), .val (.int (Int32.ofNat i)), .val (.int (cv A (o + i)))] [])) := c6.trans (st7 _ (Steps.refl _))
      have c9 : Steps p.tables e below (s₁.setTop (entryFrame m #[.ref b, .int (Int32.ofNat o), .ref d, .int (Int32.ofNat q), .int (Int32.ofNat len)] 7)) (T7.setTop (mkF m 3 #[.val (.ref b), .val (.int (Int32.ofNat (o + i) + 1)), .val (.ref d), .val (.int (Int32.ofNat (q + i) + 1)), .val (.int (Int32.ofNat len)), .val (.int (Int32.ofNat i + 1)), .val (.int (cv A (o + i)))] [])) := c8.trans (by
        refine iincV X7.here hexec rfl 1 (hb hbytes d32) (by decide) rfl rfl ?_
        refine iincV X7.here hexec rfl 1 (hb hbytes d35) (by decide) rfl rfl ?_
        refine iincV X7.here hexec rfl 1 (hb hbytes d38) (by decide) rfl rfl ?_
        refine XS.goto X7.here hexec rfl (pc0 := 41) rfl (hb hbytes d41) (by decide) rfl ?_
        exact Steps.refl _)
      have c10 : Steps p.tables e below (s₁.setTop (entryFrame m #[.ref b, .int (Int32.ofNat o), .ref d, .int (Int32.ofNat q), .int (Int32.ofNat len)] 7)) (T7.setTop (mkF m 3 #[.val (.ref b), .val (.int (Int32.ofNat (o + (i + 1)))), .val (.ref d), .val (.int (Int32.ofNat (q + (i + 1)))), .val (.int (Int32.ofNat len)), .val (.int (Int32.ofNat (i + 1))), .val (.int (cv A (o + i)))] [])) := by
        have := c9
        rw [succ32, succ32, succ32] at this
        exact this
      exact ih (i + 1) (by omega) _ (Or.inr ⟨_, rfl, rfl⟩) T7 _ (by rw [copyLocs_step, ← List.append_assoc]; exact X7) (pl.trans p7) (fl.step (by omega) hlt (by simp)) c10
  obtain ⟨T9, B9, z9, X9, p9, f9, g9⟩ := loop len 0 (by omega) .unset (Or.inl rfl) s₁ B (by simpa [copyLocs] using X0) ⟨hB0.1, fun _ _ => rfl, rfl⟩ (Laid.zero _ _ _) c2
  have c11 : Steps p.tables e below (s₁.setTop (entryFrame m #[.ref b, .int (Int32.ofNat o), .ref d, .int (Int32.ofNat q), .int (Int32.ofNat len)] 7)) (T9.setTop (mkF m 46 #[.val (.ref b), .val (.int (Int32.ofNat (o + len))), .val (.ref d), .val (.int (Int32.ofNat (q + len))), .val (.int (Int32.ofNat len)), .val (.int (Int32.ofNat len)), z9] [.int (Int32.ofNat len)])) := g9.trans (by
    refine XS.iload X9.here hexec rfl (hb hbytes d3) rfl ?_
    refine XS.iload X9.here hexec rfl (hb hbytes d5) rfl ?_
    refine XS.icmpYes X9.here hexec rfl (pc0 := 7) rfl (hb hbytes d7) rfl (ii_ge_t (nlt32 (by omega) (Nat.le_refl _))) (by decide) rfl ?_
    refine XS.iload X9.here hexec rfl (hb hbytes d44) rfl ?_
    exact Steps.refl _)
  exact ⟨T9, some (.int (Int32.ofNat len)), _, _, _, X9, by simp, rfl, rfl, (fun h => by cases h), ⟨rfl, B9, p9.from hh0, f9⟩, fun fs hl => c11.trans (X9.ireturnOut hexec hret rfl (Or.inl rfl) (hb hbytes d46) hl)⟩
end Cmp5
namespace Cmp3
def yN : MethodName := ⟨"java/lang/StringUTF16", "compress", "([CII)[B"⟩
abbrev yB : ByteArray := jdk_52_method_16_code
theorem d0 : decode yB 0 = .ok (.iload_n 2, 1) := by decide +kernel
theorem d1 : decode yB 1 = .ok (.newarray .byte, 2) := by decide +kernel
theorem d3 : decode yB 3 = .ok (.astore_n 3, 1) := by decide +kernel
theorem d4 : decode yB 4 = .ok (.aload_n 0, 1) := by decide +kernel
theorem d5 : decode yB 5 = .ok (.iload_n 1, 1) := by decide +kernel
theorem d6 : decode yB 6 = .ok (.aload_n 3, 1) := by decide +kernel
theorem d7 : decode yB 7 = .ok (.iconst 0, 1) := by decide +kernel
theorem d8 : decode yB 8 = .ok (.iload_n 2, 1) := by decide +kernel
theorem d9 : decode yB 9 = .ok (.invokestatic 115, 3) := by decide +kernel
theorem d12 : decode yB 12 = .ok (.istore 4, 2) := by decide +kernel
theorem d14 : decode yB 14 = .ok (.iload 4, 2) := by decide +kernel
theorem d16 : decode yB 16 = .ok (.iload_n 2, 1) := by decide +kernel
theorem d17 : decode yB 17 = .ok (.if_icmp (.eq) 40, 3) := by decide +kernel
theorem d57 : decode yB 57 = .ok (.aload_n 3, 1) := by decide +kernel
theorem d58 : decode yB 58 = .ok (.areturn, 1) := by decide +kernel
def site : List Cond := [.arrayClass .byte, Cmp5.tab] ++ staticW U16 115 Cmp5.yN
def tab : Cond := tabOf yN yB 6 (some (.array .byte)) site
def P (b : Addr) (A : Cell) (o len : Nat) (args : Array Value) (s : State) : Prop := args = #[.ref b, .int (Int32.ofNat o), .int (Int32.ofNat len)] ∧ Ch b A s ∧ o + len ≤ A.slots.size ∧ len ≤ 536870912 ∧ ∀ i, i < len → ¬ 255 < cv A (o + i)
def E (b : Addr) (A : Cell) (o len : Nat) (r : Option Value) (s u : State) : Prop := NewArr .byte "[B" len (fun j => .int (lo8 (cv A (o + j)))) r s u ∧ u.heap.size = s.heap.size + 1
/-- no char of the range above 255: a new byte[] of their low bytes -/
theorem law (l : Launch) (b : Addr) (A : Cell) (o len : Nat) : Law l yN 3 3 1 18 yB 6 (some (.array .byte)) site (P b A o len) (E b A o len) [] 1 len := by
  refine Law.of_walk (plainFor_of_name (by decide +kernel)) (by decide +kernel) (by decide +kernel) (by decide) (fun _ _ h => by rw [h.1]; rfl) (fun _ U U' hal hh h => ⟨h.1, h.2.1.mv hal hh, h.2.2⟩) (fun r U U' V V' h1 hal h2 h => ⟨NewArr.mv r U U' V V' h1 hal h2 h.1, by rw [h1, h2]; exact h.2⟩) ?_
  intro p e s m args below meth c s₁ X0 hexec hbytes hml hret hlk hnm hown hh0 W hP
  obtain ⟨rfl, hA, l1, l2, hp⟩ := hP
  have a31 := hA.1.2.2.2
  have c1 : Steps p.tables e below (s₁.setTop (entryFrame m #[.ref b, .int (Int32.ofNat o), .int (Int32.ofNat len)] 6)) (s₁.setTop (mkF m 0 #[.val (.ref b), .val (.int (Int32.ofNat o)), .val (.int (Int32.ofNat len)), .unset, .unset, .unset] [])) := entry rfl
  have c2 : Steps p.tables e below (s₁.setTop (entryFrame m #[.ref b, .int (Int32.ofNat o), .int (Int32.ofNat len)] 6)) (s₁.setTop (mkF m 1 #[.val (.ref b), .val (.int (Int32.ofNat o)), .val (.int (Int32.ofNat len)), .unset, .unset, .unset] [.int (Int32.ofNat len)])) := c1.trans (by
    refine XS.iloadN X0.here hexec rfl (hb hbytes d0) rfl ?_
    exact Steps.refl _)
  obtain ⟨T3, B3, X3, ba3, bs3, bv3, bh3, bf3, st3⟩ := X0.anew hexec (atype := .byte) (wk W (.arrayClass .byte)) rfl (by show len * 1 ≤ _; omega) (by omega) (g := (mkF m 1 #[.val (.ref b), .val (.int (Int32.ofNat o)), .val (.int (Int32.ofNat len)), .unset, .unset, .unset] [.int (Int32.ofNat len)])) rfl (hb hbytes d1) (rest := []) rfl (Nat.le_refl _) (by show 0 + len ≤ len; omega)
  rw [hh0] at ba3 st3
  have kp3 : XT.Kept s T3 := (XT.Kept.of_eq hh0).push bh3
  have hA3 := hA.keep X3.warmed.alike (kp3 _ _ hA.1.1)
  have hne : b ≠ s.heap.size := hA.1.ne
  have c4 : Steps p.tables e below (s₁.setTop (entryFrame m #[.ref b, .int (Int32.ofNat o), .int (Int32.ofNat len)] 6)) (T3.setTop (mkF m 3 #[.val (.ref b), .val (.int (Int32.ofNat o)), .val (.int (Int32.ofNat len)), .unset, .unset, .unset] [.ref s.heap.size])) := c2.trans (st3 _ (Steps.refl _))
  have c5 : Steps p.tables e below (s₁.setTop (entryFrame m #[.ref b, .int (Int32.ofNat o), .int (Int32.ofNat len)] 6)) (T3.setTop (mkF m 9 #[.val (.ref b), .val (.int (Int32.ofNat o)), .val (.int (Int32.ofNat len)), .val (.ref s.heap.size), .unset, .unset] [.int (Int32.ofNat len), .int 0, .ref s.heap.size, .int (Int32.ofNat o), .ref b])) := c4.trans (by
    refine XS.astoreN X3.here hexec rfl (hb hbytes d3) rfl rfl rfl ?_
    refine XS.aloadN X3.here hexec rfl (hb hbytes d4) rfl rfl ?_
    refine XS.iloadN X3.here hexec rfl (hb hbytes d5) rfl ?_
    refine XS.aloadN X3.here hexec rfl (hb hbytes d6) rfl rfl ?_
    refine iconstV X3.here hexec rfl 0 (hb hbytes d7) (by decide) ?_
    refine XS.iloadN X3.here hexec rfl (hb hbytes d8) rfl ?_
    exact Steps.refl _)
  obtain ⟨v6, T6, X6, E6, g6⟩ := X3.callS hexec (Cmp5.law l b A s.heap.size B3 o 0 len) hown (wks W (staticW U16 115 Cmp5.yN)) (wk W Cmp5.tab) (W := 0) (Nat.le_of_ble_eq_true rfl) (Nat.le_of_ble_eq_true rfl) (Nat.le_refl _) (by show 0 + len + 0 ≤ len; omega) (g := (mkF m 9 #[.val (.ref b), .val (.int (Int32.ofNat o)), .val (.int (Int32.ofNat len)), .val (.ref s.heap.size), .unset, .unset] [.int (Int32.ofNat len), .int (Int32.ofNat 0), .ref s.heap.size, .int (Int32.ofNat o), .ref b])) rfl (by rw [hml]; rfl) c5 (argsL := [.ref b, .int (Int32.ofNat o), .ref s.heap.size, .int (Int32.ofNat 0), .int (Int32.ofNat len)]) (rest := []) rfl rfl (by show 2 * 0 + 0 ≤ _; decide) (hb hbytes d9) (⟨rfl, hA3, ba3, hne, l1, by rw [bs3]; simp, hp⟩)
  obtain ⟨rfl, B6, p6, f6⟩ := E6
  have c7 : Steps p.tables e below (s₁.setTop (entryFrame m #[.ref b, .int (Int32.ofNat o), .int (Int32.ofNat len)] 6)) (T6.setTop (mkF m 12 #[.val (.ref b), .val (.int (Int32.ofNat o)), .val (.int (Int32.ofNat len)), .val (.ref s.heap.size), .unset, .unset] [.int (Int32.ofNat len)])) := g6
  have c8 : Steps p.tables e below (s₁.setTop (entryFrame m #[.ref b, .int (Int32.ofNat o), .int (Int32.ofNat len)] 6)) (T6.setTop (mkF m 58 #[.val (.ref b), .val (.int (Int32.ofNat o)), .val (.int (Int32.ofNat len)), .val (.ref s.heap.size), .val (.int (Int32.ofNat len)), .unset] [.ref s.heap.size])) := c7.trans (by
    refine XS.istore X6.here hexec rfl (hb hbytes d12) rfl rfl ?_
    refine XS.iload X6.here hexec rfl (hb hbytes d14) rfl ?_
    refine XS.iloadN X6.here hexec rfl (hb hbytes d16) rfl ?_
    refine XS.icmpYes X6.here hexec rfl (pc0 := 17) rfl (hb hbytes d17) rfl (ii_eq_t rfl) (by decide) rfl ?_
    refine XS.aloadN X6.here hexec rfl (hb hbytes d57) rfl rfl ?_
    exact Steps.refl _)
  have X8 := X6.wide (L' := []) (cells' := 1) (slots' := len) (fun x hx hlt => by
    simp only [List.nil_append, copyLocs, List.mem_map, List.mem_range] at hx
    obtain ⟨i, -, rfl⟩ := hx
    exact absurd hlt (Nat.lt_irrefl _)) (Nat.le_refl _) (by omega)
  exact ⟨T6, some (.ref s.heap.size), _, _, _, X8, rfl, rfl, rfl, (fun h => by cases h), ⟨⟨rfl, B6, ba3.like (X3.warmed.alike.symm.trans X6.warmed.alike) p6.1 f6.1 f6.2.1 f6.2.2.1, f6.2.1.trans bv3, by rw [X6.warmed.alike.findClass, f6.1]; exact bf3, by rw [f6.2.2.1, bs3]; simp, fun j hj => by rw [f6.2.2.2 j, if_pos (by omega)]; rfl, kp3.put p6 (Nat.le_refl _)⟩, by rw [p6.2.2, bh3, hh0]; simp⟩, fun fs hl => c8.trans (X8.areturnOut hexec rfl hret rfl (hb hbytes d58) hl)⟩
end Cmp3
namespace CodL
def yN : MethodName := ⟨"java/lang/StringUTF16", "coderFromArrayLen", "([BI)B"⟩
abbrev yB : ByteArray := jdk_52_method_15_code
theorem d0 : decode yB 0 = .ok (.iload_n 1, 1) := by decide +kernel
theorem d1 : decode yB 1 = .ok (.aload_n 0, 1) := by decide +kernel
theorem d2 : decode yB 2 = .ok (.arraylength, 1) := by decide +kernel
theorem d3 : decode yB 3 = .ok (.isub, 1) := by decide +kernel
theorem d4 : decode yB 4 = .ok (.bipush 31, 2) := by decide +kernel
theorem d6 : decode yB 6 = .ok (.iushr, 1) := by decide +kernel
theorem d7 : decode yB 7 = .ok (.i2b, 1) := by decide +kernel
theorem d8 : decode yB 8 = .ok (.ireturn, 1) := by decide +kernel
def site : List Cond := []
def tab : Cond := tabOf yN yB 2 (some .byte) site
def P (d : Addr) (B : Cell) (args : Array Value) (s : State) : Prop := args = #[.ref d, .int (Int32.ofNat B.slots.size)] ∧ Arr .byte d B s
def E (r : Option Value) (s u : State) : Prop := XT.PureE (some (.int 0)) r s u
/-- an array as long as the number of chars: LATIN1 -/
theorem law (l : Launch) (d : Addr) (B : Cell) : Law l yN 2 2 0 0 yB 2 (some .byte) site (P d B) E [] 0 0 := by
  refine Law.of_walk (plainFor_of_name (by decide +kernel)) (by decide +kernel) (by decide +kernel) (by decide) (fun _ _ h => by rw [h.1]; rfl) (fun _ U U' hal hh h => ⟨h.1, h.2.mv hal hh⟩) (fun r U U' V V' h1 hal h2 h => XT.PureE.mv r U U' V V' h1 hal h2 h) ?_
  intro p e s m args below meth c s₁ X0 hexec hbytes hml hret hlk hnm hown hh0 W hP
  obtain ⟨rfl, hB⟩ := hP
  have hB0 := hB.mv X0.warmed.alike hh0
  have c1 : Steps p.tables e below (s₁.setTop (entryFrame m #[.ref d, .int (Int32.ofNat B.slots.size)] 2)) (s₁.setTop (mkF m 0 #[.val (.ref d), .val (.int (Int32.ofNat B.slots.size))] [])) := entry rfl
  have c2 : Steps p.tables e below (s₁.setTop (entryFrame m #[.ref d, .int (Int32.ofNat B.slots.size)] 2)) (s₁.setTop (mkF m 2 #[.val (.ref d), .val (.int (Int32.ofNat B.slots.size))] [.ref d, .int (Int32.ofNat B.slots.size)])) := c1.trans (by
    refine XS.iloadN X0.here hexec rfl (hb hbytes d0) rfl ?_
    refine XS.aloadN X0.here hexec rfl (hb hbytes d1) rfl rfl ?_
    exact Steps.refl _)
  have c3 : Steps p.tables e below (s₁.setTop (entryFrame m #[.ref d, .int (Int32.ofNat B.slots.size)] 2)) (s₁.setTop (mkF m 8 #[.val (.ref d), .val (.int (Int32.ofNat B.slots.size))] [.int (lo8 (ushr (Int32.ofNat B.slots.size - Int32.ofNat B.slots.size) 31))])) := c2.trans (by
    refine X0.alen hexec hB0 rfl rfl (hb hbytes d2) ?_
    refine XS.isub X0.here hexec rfl (hb hbytes d3) rfl ?_
    refine bipushV X0.here hexec rfl 31 (hb hbytes d4) (by decide) ?_
    refine iushr X0.here hexec rfl (hb hbytes d6) rfl ?_
    refine i2b X0.here hexec rfl (hb hbytes d7) rfl ?_
    exact Steps.refl _)
  have e0 : lo8 (ushr (Int32.ofNat B.slots.size - Int32.ofNat B.slots.size) 31) = 0 := by rw [Int32.sub_self]; decide
  rw [e0] at c3
  exact ⟨s₁, some (.int 0), _, _, _, X0, rfl, rfl, rfl, (fun h => by cases h), ⟨rfl, hh0⟩, fun fs hl => c3.trans (X0.ireturnOut hexec hret rfl (Or.inr (Or.inr (Or.inl rfl))) (hb hbytes d8) hl)⟩
end CodL
/-- the String at a is Latin-1 over a new byte[] (the heap's one new cell): the low bytes of the len chars of A from o on; every cell but a is kept -/
def Got (a : Addr) (D : Cell) (fV fC : Field) (A : Cell) (o len : Nat) (r : Option Value) (s u : State) : Prop := r = none ∧ ∃ D' V : Cell, Blank "java/lang/String" a D' u ∧ Same D D' [fV.slot, fC.slot] ∧ D'.slots[fV.slot]? = some (.ref s.heap.size) ∧ D'.slots[fC.slot]? = some (.int 0) ∧ Arr .byte s.heap.size V u ∧ V.vm = .none ∧ u.vm.findClass "[B" = some V.cls ∧ V.slots.size = len ∧ (∀ j, j < len → V.slots[j]? = some (.int (lo8 (cv A (o + j))))) ∧ (∀ (y : Addr) (c : Cell), y ≠ a → s.heap[y]? = some c → u.heap[y]? = some c) ∧ u.heap.size = s.heap.size + 1
theorem Got.mv {a : Addr} {D A : Cell} {fV fC : Field} {o len : Nat} : ∀ r (U U' V V' : State), U'.heap = U.heap → V.vm.Alike V'.vm → V'.heap = V.heap → Got a D fV fC A o len r U V → Got a D fV fC A o len r U' V' :=
  fun r U U' V V' h1 hal h2 ⟨e0, D', X, a1, a2, a3, a4, a5, a6, a7, a8, a9, a10, a11⟩ => ⟨e0, D', X, a1.mv hal h2, a2, by rw [h1]; exact a3, a4, by rw [h1]; exact a5.mv hal h2, a6, by rw [hal.findClass]; exact a7, a8, a9, by rw [h1, h2]; exact a10, by rw [h1, h2]; exact a11⟩
namespace New4
def yN : MethodName := ⟨"java/lang/String", "<init>", "([CIILjava/lang/Void;)V"⟩
abbrev yB : ByteArray := jdk_42_method_149_code
theorem d0 : decode yB 0 = .ok (.aload_n 0, 1) := by decide +kernel
theorem d1 : decode yB 1 = .ok (.invokespecial 1, 3) := by decide +kernel
theorem d4 : decode yB 4 = .ok (.iload_n 3, 1) := by decide +kernel
theorem d5 : decode yB 5 = .ok (.ifCond (.ne) 22, 3) := by decide +kernel
theorem d27 : decode yB 27 = .ok (.getstatic 38, 3) := by decide +kernel
theorem d30 : decode yB 30 = .ok (.ifCond (.eq) 28, 3) := by decide +kernel
theorem d33 : decode yB 33 = .ok (.aload_n 1, 1) := by decide +kernel
theorem d34 : decode yB 34 = .ok (.iload_n 2, 1) := by decide +kernel
theorem d35 : decode yB 35 = .ok (.iload_n 3, 1) := by decide +kernel
theorem d36 : decode yB 36 = .ok (.invokestatic 177, 3) := by decide +kernel
theorem d39 : decode yB 39 = .ok (.astore 5, 2) := by decide +kernel
theorem d41 : decode yB 41 = .ok (.aload_n 0, 1) := by decide +kernel
theorem d42 : decode yB 42 = .ok (.aload 5, 2) := by decide +kernel
theorem d44 : decode yB 44 = .ok (.iload_n 3, 1) := by decide +kernel
theorem d45 : decode yB 45 = .ok (.invokestatic 47, 3) := by decide +kernel
theorem d48 : decode yB 48 = .ok (.putfield 15, 3) := by decide +kernel
theorem d51 : decode yB 51 = .ok (.aload_n 0, 1) := by decide +kernel
theorem d52 : decode yB 52 = .ok (.aload 5, 2) := by decide +kernel
theorem d54 : decode yB 54 = .ok (.putfield 9, 3) := by decide +kernel
theorem d57 : decode yB 57 = .ok (.return_, 1) := by decide +kernel
def site : List Cond := [.fieldLink "java/lang/String" 38 "java/lang/String" "COMPACT_STRINGS" "Z", Cmp3.tab, CodL.tab, .laysFinal "java/lang/String" "java/lang/String" "value" "[B", .fieldLink "java/lang/String" 9 "java/lang/String" "value" "[B", .laysFinal "java/lang/String" "java/lang/String" "coder" "B", .fieldLink "java/lang/String" 15 "java/lang/String" "coder" "B"] ++ objW "java/lang/String" 1 ++ staticW "java/lang/String" 177 Cmp3.yN ++ staticW "java/lang/String" 47 CodL.yN
def tab : Cond := tabOf yN yB 6 none site
def P (a : Addr) (D : Cell) (fV fC : Field) (b : Addr) (A : Cell) (z : Int32) (o len : Nat) (args : Array Value) (s : State) : Prop := args = #[.ref a, .ref b, .int (Int32.ofNat o), .int (Int32.ofNat len), .null] ∧ Blank "java/lang/String" a D s ∧ Found "java/lang/String" "value" "[B" fV s ∧ Found "java/lang/String" "coder" "B" fC s ∧ Ch b A s ∧ StaticIs s "java/lang/String" "COMPACT_STRINGS" "Z" (.int z) ∧ ¬ z = 0 ∧ 0 < len ∧ o + len ≤ A.slots.size ∧ len ≤ 536870912 ∧ ∀ i, i < len → ¬ 255 < cv A (o + i)
def E (a : Addr) (D : Cell) (fV fC : Field) (A : Cell) (o len : Nat) (r : Option Value) (s u : State) : Prop := Got a D fV fC A o len r s u
/-- len > 0, no char of the range above 255: a Latin-1 String of their low bytes -/
theorem law (l : Launch) (a : Addr) (D : Cell) (fV fC : Field) (b : Addr) (A : Cell) (z : Int32) (o len : Nat) : Law l yN 5 4 2 35 yB 6 none site (P a D fV fC b A z o len) (E a D fV fC A o len) [⟨a, fC.slot⟩, ⟨a, fV.slot⟩] 1 len := by
  refine Law.of_walk (plainFor_of_name (by decide +kernel)) (by decide +kernel) (by decide +kernel) (by decide) (fun _ _ h => by rw [h.1]; rfl) (fun _ U U' hal hh h => ⟨h.1, h.2.1.mv hal hh, h.2.2.1.al hal, h.2.2.2.1.al hal, h.2.2.2.2.1.mv hal hh, h.2.2.2.2.2.1.there hal hh, h.2.2.2.2.2.2⟩) (fun r U U' V V' h1 hal h2 h => Got.mv r U U' V V' h1 hal h2 h) ?_
  intro p e s m args below meth c s₁ X0 hexec hbytes hml hret hlk hnm hown hh0 W hP
  obtain ⟨rfl, hB, f1, f2, hA, s1, hz, l0, l1, l2, hp⟩ := hP
  have a31 := hA.1.2.2.2
  have c1 : Steps p.tables e below (s₁.setTop (entryFrame m #[.ref a, .ref b, .int (Int32.ofNat o), .int (Int32.ofNat len), .null] 6)) (s₁.setTop (mkF m 0 #[.val (.ref a), .val (.ref b), .val (.int (Int32.ofNat o)), .val (.int (Int32.ofNat len)), .val .null, .unset] [])) := entry rfl
  have c2 : Steps p.tables e below (s₁.setTop (entryFrame m #[.ref a, .ref b, .int (Int32.ofNat o), .int (Int32.ofNat len), .null] 6)) (s₁.setTop (mkF m 1 #[.val (.ref a), .val (.ref b), .val (.int (Int32.ofNat o)), .val (.int (Int32.ofNat len)), .val .null, .unset] [.ref a])) := c1.trans (by
    refine XS.aloadN X0.here hexec rfl (hb hbytes d0) rfl rfl ?_
    exact Steps.refl _)
  obtain ⟨T3, X3, q3, st3⟩ := X0.oinit hexec hown (wks W (objW "java/lang/String" 1)) (g := (mkF m 1 #[.val (.ref a), .val (.ref b), .val (.int (Int32.ofNat o)), .val (.int (Int32.ofNat len)), .val .null, .unset] [.ref a])) rfl (by rw [hml]; rfl) (rest := []) rfl (hb hbytes d1) (W := 0) (by show 2 * 0 + 0 ≤ _; decide) (Nat.le_of_ble_eq_true rfl) (Nat.le_of_ble_eq_true rfl)
  have hh3 := q3.trans hh0
  have c4 : Steps p.tables e below (s₁.setTop (entryFrame m #[.ref a, .ref b, .int (Int32.ofNat o), .int (Int32.ofNat len), .null] 6)) (T3.setTop (mkF m 27 #[.val (.ref a), .val (.ref b), .val (.int (Int32.ofNat o)), .val (.int (Int32.ofNat len)), .val .null, .unset] [])) := (c2.trans (st3 _ (Steps.refl _))).trans (by
    refine XS.iloadN X3.here hexec rfl (hb hbytes d4) rfl ?_
    refine XS.ifYes X3.here hexec rfl (pc0 := 5) rfl (hb hbytes d5) rfl (i0_ne_t (nz32 (by omega) l0)) (by decide) rfl ?_
    exact Steps.refl _)
  obtain ⟨T5, X5, q5, st5⟩ := X3.sget hexec hown (wk W (.fieldLink "java/lang/String" 38 "java/lang/String" "COMPACT_STRINGS" "Z")) s1 (fun _ _ h => by rw [hh3]; exact h) (g := (mkF m 27 #[.val (.ref a), .val (.ref b), .val (.int (Int32.ofNat o)), .val (.int (Int32.ofNat len)), .val .null, .unset] [])) rfl (hb hbytes d27)
  have hh5 := q5.trans hh3
  have c6 : Steps p.tables e below (s₁.setTop (entryFrame m #[.ref a, .ref b, .int (Int32.ofNat o), .int (Int32.ofNat len), .null] 6)) (T5.setTop (mkF m 30 #[.val (.ref a), .val (.ref b), .val (.int (Int32.ofNat o)), .val (.int (Int32.ofNat len)), .val .null, .unset] [.int z])) := c4.trans (st5 _ (Steps.refl _))
  have c7 : Steps p.tables e below (s₁.setTop (entryFrame m #[.ref a, .ref b, .int (Int32.ofNat o), .int (Int32.ofNat len), .null] 6)) (T5.setTop (mkF m 36 #[.val (.ref a), .val (.ref b), .val (.int (Int32.ofNat o)), .val (.int (Int32.ofNat len)), .val .null, .unset] [.int (Int32.ofNat len), .int (Int32.ofNat o), .ref b])) := c6.trans (by
    refine XS.ifNo X5.here hexec rfl (hb hbytes d30) rfl (i0_eq_f hz) ?_
    refine XS.aloadN X5.here hexec rfl (hb hbytes d33) rfl rfl ?_
    refine XS.iloadN X5.here hexec rfl (hb hbytes d34) rfl ?_
    refine XS.iloadN X5.here hexec rfl (hb hbytes d35) rfl ?_
    exact Steps.refl _)
  obtain ⟨v8, T8, X8, E8, g8⟩ := X5.callS hexec (Cmp3.law l b A o len) hown (wks W (staticW "java/lang/String" 177 Cmp3.yN)) (wk W Cmp3.tab) (W := 0) (Nat.le_of_ble_eq_true rfl) (Nat.le_of_ble_eq_true rfl) (Nat.le_refl _) (by show 0 + len ≤ len; omega) (g := (mkF m 36 #[.val (.ref a), .val (.ref b), .val (.int (Int32.ofNat o)), .val (.int (Int32.ofNat len)), .val .null, .unset] [.int (Int32.ofNat len), .int (Int32.ofNat o), .ref b])) rfl (by rw [hml]; rfl) c7 (argsL := [.ref b, .int (Int32.ofNat o), .int (Int32.ofNat len)]) (rest := []) rfl rfl (by show 2 * 0 + 0 ≤ _; decide) (hb hbytes d36) (⟨rfl, hA.mv X5.warmed.alike hh5, l1, l2, hp⟩)
  obtain ⟨e8, z8⟩ := E8
  obtain ⟨rfl, N, n1, n2, n3, n4, n5, n6⟩ := NewArr.mv _ T5 s _ _ hh5.symm (Vm.Alike.refl _) rfl e8
  rw [hh5] at z8
  have hB1 := hB.keep X8.warmed.alike (n6 _ _ hB.1)
  have hne : s.heap.size ≠ a := (Nat.ne_of_lt (Array.getElem?_eq_some_iff.mp hB.1).1).symm
  have c9 : Steps p.tables e below (s₁.setTop (entryFrame m #[.ref a, .ref b, .int (Int32.ofNat o), .int (Int32.ofNat len), .null] 6)) (T8.setTop (mkF m 39 #[.val (.ref a), .val (.ref b), .val (.int (Int32.ofNat o)), .val (.int (Int32.ofNat len)), .val .null, .unset] [.ref s.heap.size])) := g8
  have c10 : Steps p.tables e below (s₁.setTop (entryFrame m #[.ref a, .ref b, .int (Int32.ofNat o), .int (Int32.ofNat len), .null] 6)) (T8.setTop (mkF m 45 #[.val (.ref a), .val (.ref b), .val (.int (Int32.ofNat o)), .val (.int (Int32.ofNat len)), .val .null, .val (.ref s.heap.size)] [.int (Int32.ofNat N.slots.size), .ref s.heap.size, .ref a])) := by
    have hc : Steps p.tables e below (s₁.setTop (entryFrame m #[.ref a, .ref b, .int (Int32.ofNat o), .int (Int32.ofNat len), .null] 6)) (T8.setTop (mkF m 45 #[.val (.ref a), .val (.ref b), .val (.int (Int32.ofNat o)), .val (.int (Int32.ofNat len)), .val .null, .val (.ref s.heap.size)] [.int (Int32.ofNat len), .ref s.heap.size, .ref a])) := c9.trans (by
      refine XS.astore X8.here hexec rfl (hb hbytes d39) rfl rfl rfl ?_
      refine XS.aloadN X8.here hexec rfl (hb hbytes d41) rfl rfl ?_
      refine XS.aload X8.here hexec rfl (hb hbytes d42) rfl rfl ?_
      refine XS.iloadN X8.here hexec rfl (hb hbytes d44) rfl ?_
      exact Steps.refl _)
    rw [n4]; exact hc
  obtain ⟨v11, T11, X11, E11, g11⟩ := X8.callS hexec (CodL.law l s.heap.size N) hown (wks W (staticW "java/lang/String" 47 CodL.yN)) (wk W CodL.tab) (W := 1) (Nat.le_of_ble_eq_true rfl) (Nat.le_of_ble_eq_true rfl) (Nat.le_refl _) (by show 0 + len + 0 ≤ len; omega) (g := (mkF m 45 #[.val (.ref a), .val (.ref b), .val (.int (Int32.ofNat o)), .val (.int (Int32.ofNat len)), .val .null, .val (.ref s.heap.size)] [.int (Int32.ofNat N.slots.size), .ref s.heap.size, .ref a])) rfl (by rw [hml]; rfl) c10 (argsL := [.ref s.heap.size, .int (Int32.ofNat N.slots.size)]) (rest := [.ref a]) rfl rfl (by show 2 * 0 + (1 + 0) ≤ _; decide) (hb hbytes d45) (⟨rfl, n1⟩)
  obtain ⟨rfl, q11⟩ := E11
  have hB11 := hB1.mv (X8.warmed.alike.symm.trans X11.warmed.alike) q11
  have c12 : Steps p.tables e below (s₁.setTop (entryFrame m #[.ref a, .ref b, .int (Int32.ofNat o), .int (Int32.ofNat len), .null] 6)) (T11.setTop (mkF m 48 #[.val (.ref a), .val (.ref b), .val (.int (Int32.ofNat o)), .val (.int (Int32.ofNat len)), .val .null, .val (.ref s.heap.size)] [.int 0, .ref a])) := g11
  obtain ⟨T13, X13, p13, bl13, sl13, st13⟩ := X11.finit hexec hown (wk W (.fieldLink "java/lang/String" 15 "java/lang/String" "coder" "B")) (Or.inr ⟨_, (wk W (.laysFinal "java/lang/String" "java/lang/String" "coder" "B"))⟩) (Or.inl ⟨rfl, hnm⟩) f2 (Or.inl rfl) hB11 (t := .byte) (by decide +kernel) rfl (g := (mkF m 48 #[.val (.ref a), .val (.ref b), .val (.int (Int32.ofNat o)), .val (.int (Int32.ofNat len)), .val .null, .val (.ref s.heap.size)] [.int 0, .ref a])) rfl (rest := []) rfl (hb hbytes d48)
  have c14 : Steps p.tables e below (s₁.setTop (entryFrame m #[.ref a, .ref b, .int (Int32.ofNat o), .int (Int32.ofNat len), .null] 6)) (T13.setTop (mkF m 54 #[.val (.ref a), .val (.ref b), .val (.int (Int32.ofNat o)), .val (.int (Int32.ofNat len)), .val .null, .val (.ref s.heap.size)] [.ref s.heap.size, .ref a])) := (c12.trans (st13 _ (Steps.refl _))).trans (by
    refine XS.aloadN X13.here hexec rfl (hb hbytes d51) rfl rfl ?_
    refine XS.aload X13.here hexec rfl (hb hbytes d52) rfl rfl ?_
    exact Steps.refl _)
  obtain ⟨T15, X15, p15, bl15, sl15, st15⟩ := X13.finit hexec hown (wk W (.fieldLink "java/lang/String" 9 "java/lang/String" "value" "[B")) (Or.inr ⟨_, (wk W (.laysFinal "java/lang/String" "java/lang/String" "value" "[B"))⟩) (Or.inl ⟨rfl, hnm⟩) f1 (Or.inl rfl) bl13 (t := (.array .byte)) (by decide +kernel) rfl (g := (mkF m 54 #[.val (.ref a), .val (.ref b), .val (.int (Int32.ofNat o)), .val (.int (Int32.ofNat len)), .val .null, .val (.ref s.heap.size)] [.ref s.heap.size, .ref a])) rfl (rest := []) rfl (hb hbytes d54)
  have c16 : Steps p.tables e below (s₁.setTop (entryFrame m #[.ref a, .ref b, .int (Int32.ofNat o), .int (Int32.ofNat len), .null] 6)) (T15.setTop (mkF m 57 #[.val (.ref a), .val (.ref b), .val (.int (Int32.ofNat o)), .val (.int (Int32.ofNat len)), .val .null, .val (.ref s.heap.size)] [])) := c14.trans (st15 _ (Steps.refl _))
  have ap := apart (Or.inr ⟨_, (wk W (.laysFinal "java/lang/String" "java/lang/String" "value" "[B"))⟩) (Or.inr ⟨_, (wk W (.laysFinal "java/lang/String" "java/lang/String" "coder" "B"))⟩) f1 f2 (t₁ := .array .byte) (t₂ := .byte) (by decide +kernel) (by decide +kernel) (by decide)
  have al := X8.warmed.alike.symm.trans X15.warmed.alike
  have n7 : T11.heap[s.heap.size]? = some N := by rw [q11]; exact n1.1
  exact ⟨T15, none, _, _, _, X15, by simp, rfl, by omega, (fun _ => rfl), ⟨rfl, _, N, bl15, ((Same.refl D _).set _ (by simp)).set _ (by simp), sl15, (Cell.slots_setSlot_ne _ ap).trans sl13, n1.keep al (p15.other hne (p13.other hne n7)), n2, by rw [al.findClass]; exact n3, n4, n5, fun y c h1 h2 => p15.other h1 (p13.other h1 (by rw [q11]; exact n6 y c h2)), by rw [p15.2.2, p13.2.2, q11]; exact z8⟩, fun fs hl => c16.trans (X15.returnOut hexec hret (hb hbytes d57) hl)⟩
end New4
namespace New1
def yN : MethodName := ⟨"java/lang/String", "<init>", "([C)V"⟩
abbrev yB : ByteArray := jdk_42_method_3_code
theorem d0 : decode yB 0 = .ok (.aload_n 0, 1) := by decide +kernel
theorem d1 : decode yB 1 = .ok (.aload_n 1, 1) := by decide +kernel
theorem d2 : decode yB 2 = .ok (.iconst 0, 1) := by decide +kernel
theorem d3 : decode yB 3 = .ok (.aload_n 1, 1) := by decide +kernel
theorem d4 : decode yB 4 = .ok (.arraylength, 1) := by decide +kernel
theorem d5 : decode yB 5 = .ok (.aconst_null, 1) := by decide +kernel
theorem d6 : decode yB 6 = .ok (.invokespecial 27, 3) := by decide +kernel
theorem d9 : decode yB 9 = .ok (.return_, 1) := by decide +kernel
def site : List Cond := [New4.tab] ++ initW "java/lang/String" 27 New4.yN
def tab : Cond := tabOf yN yB 2 none site
def P (a : Addr) (D : Cell) (fV fC : Field) (b : Addr) (A : Cell) (z : Int32) (args : Array Value) (s : State) : Prop := args = #[.ref a, .ref b] ∧ Blank "java/lang/String" a D s ∧ Found "java/lang/String" "value" "[B" fV s ∧ Found "java/lang/String" "coder" "B" fC s ∧ Ch b A s ∧ StaticIs s "java/lang/String" "COMPACT_STRINGS" "Z" (.int z) ∧ ¬ z = 0 ∧ 0 < A.slots.size ∧ A.slots.size ≤ 536870912 ∧ ∀ i, i < A.slots.size → ¬ 255 < cv A i
def E (a : Addr) (D : Cell) (fV fC : Field) (A : Cell) (r : Option Value) (s u : State) : Prop := Got a D fV fC A 0 A.slots.size r s u
/-- new String(chars), not empty, no char above 255: a Latin-1 String of their low bytes -/
theorem law (l : Launch) (a : Addr) (D : Cell) (fV fC : Field) (b : Addr) (A : Cell) (z : Int32) : Law l yN 2 1 3 52 yB 2 none site (P a D fV fC b A z) (E a D fV fC A) [⟨a, fC.slot⟩, ⟨a, fV.slot⟩] 1 A.slots.size := by
  refine Law.of_walk (plainFor_of_name (by decide +kernel)) (by decide +kernel) (by decide +kernel) (by decide) (fun _ _ h => by rw [h.1]; rfl) (fun _ U U' hal hh h => ⟨h.1, h.2.1.mv hal hh, h.2.2.1.al hal, h.2.2.2.1.al hal, h.2.2.2.2.1.mv hal hh, h.2.2.2.2.2.1.there hal hh, h.2.2.2.2.2.2⟩) (fun r U U' V V' h1 hal h2 h => Got.mv r U U' V V' h1 hal h2 h) ?_
  intro p e s m args below meth c s₁ X0 hexec hbytes hml hret hlk hnm hown hh0 W hP
  obtain ⟨rfl, hB, f1, f2, hA, s1, hz, l0, l2, hp⟩ := hP
  have c1 : Steps p.tables e below (s₁.setTop (entryFrame m #[.ref a, .ref b] 2)) (s₁.setTop (mkF m 0 #[.val (.ref a), .val (.ref b)] [])) := entry rfl
  have c2 : Steps p.tables e below (s₁.setTop (entryFrame m #[.ref a, .ref b] 2)) (s₁.setTop (mkF m 6 #[.val (.ref a), .val (.ref b)] [.null, .int (Int32.ofNat A.slots.size), .int 0, .ref b, .ref a])) := c1.trans (by
    refine XS.aloadN X0.here hexec rfl (hb hbytes d0) rfl rfl ?_
    refine XS.aloadN X0.here hexec rfl (hb hbytes d1) rfl rfl ?_
    refine iconstV X0.here hexec rfl 0 (hb hbytes d2) (by decide) ?_
    refine XS.aloadN X0.here hexec rfl (hb hbytes d3) rfl rfl ?_
    refine X0.alen hexec (hA.1.mv X0.warmed.alike hh0) rfl rfl (hb hbytes d4) ?_
    refine XS.aconstNull X0.here hexec rfl (hb hbytes d5) ?_
    exact Steps.refl _)
  obtain ⟨v3, T3, X3, E3, g3⟩ := X0.callN hexec (New4.law l a D fV fC b A z 0 A.slots.size) rfl hown (wks W (initW "java/lang/String" 27 New4.yN)) (W New4.tab (by simp only [site, List.mem_cons, List.mem_append, true_or, or_true])) (W := 0) (Nat.le_of_ble_eq_true rfl) (Nat.le_of_ble_eq_true rfl) (Nat.le_refl _) (by show 0 + A.slots.size ≤ A.slots.size; omega) (g := (mkF m 6 #[.val (.ref a), .val (.ref b)] [.null, .int (Int32.ofNat A.slots.size), .int (Int32.ofNat 0), .ref b, .ref a])) rfl (by rw [hml]; rfl) c2 (argsL := [.ref b, .int (Int32.ofNat 0), .int (Int32.ofNat A.slots.size), .null]) (rest := []) rfl rfl (by show 2 * 0 + 0 ≤ _; decide) (hb hbytes d6) (⟨rfl, hB.mv X0.warmed.alike hh0, f1.al X0.warmed.alike, f2.al X0.warmed.alike, hA.mv X0.warmed.alike hh0, s1.there X0.warmed.alike hh0, hz, l0, by omega, l2, fun i hi => by rw [Nat.zero_add]; exact hp i hi⟩)
  have e0 := Got.mv _ s₁ s _ _ hh0.symm (Vm.Alike.refl _) rfl E3
  obtain rfl := e0.1
  have c4 : Steps p.tables e below (s₁.setTop (entryFrame m #[.ref a, .ref b] 2)) (T3.setTop (mkF m 9 #[.val (.ref a), .val (.ref b)] [])) := g3
  exact ⟨T3, none, _, _, _, X3, by simp, rfl, by omega, (fun _ => rfl), e0, fun fs hl => c4.trans (X3.returnOut hexec hret (hb hbytes d9) hl)⟩
theorem pays {l : Launch} {R : Room} {p : Program} {e : Env} {below : List Frame} {s : State} {sargs : Array Value} {len W : Nat} (a : Addr) (D : Cell) (fV fC : Field) (b : Addr) (A : Cell) (z : Int32) (htab : tab.before sargs s = true) (hfr : 4 ≤ R.frames) (hlo : W + 65 ≤ R.locals) :
    Back l R p e below s sargs yN len W (fun A₁ a₁ => A₁.cells + 1 ≤ R.cells ∧ A₁.slots + A.slots.size ≤ R.slots ∧ P a D fV fC b A z a₁ A₁.U) (fun A₁ _ v₁ B₁ => E a D fV fC A v₁ A₁.U B₁.U ∧ B₁.locs = A₁.locs ++ [⟨a, fC.slot⟩, ⟨a, fV.slot⟩] ∧ B₁.cells = A₁.cells + 1 ∧ B₁.slots = A₁.slots + A.slots.size) :=
  (law l a D fV fC b A z).pays htab hfr (by omega)
end New1
end StrChars
namespace StrChars.Road
open Jvm Sem ClassFile Op Lib Jvm.Stand Jvm.Free Jvm.Free.XT
open Jvm.Lib.Cold (StaticIs)
abbrev ST : String := "java/lang/String"
/-- every table word that New1's law asks, flat -/
abbrev words : List Jvm.Cond := [.code New1.yN New1.yB 2 none, .initialized ST, .methodLink ST 27 New4.yN, .instanceMethod New4.yN,
  .code New4.yN New4.yB 6 none, .fieldLink ST 38 ST "COMPACT_STRINGS" "Z", .laysFinal ST ST "value" "[B", .fieldLink ST 9 ST "value" "[B", .laysFinal ST ST "coder" "B", .fieldLink ST 15 ST "coder" "B",
  .methodLink ST 1 Lib.objectInit, .instanceMethod Lib.objectInit, .code Lib.objectInit ⟨#[0xb1]⟩ 1 none, .methodLink ST 177 Cmp3.yN, .static Cmp3.yN, .methodLink ST 47 CodL.yN, .static CodL.yN,
  .code Cmp3.yN Cmp3.yB 6 (some (.array .byte)), .initialized U16, .arrayClass .byte, .methodLink U16 115 Cmp5.yN, .static Cmp5.yN, .code Cmp5.yN Cmp5.yB 7 (some .int), .code CodL.yN CodL.yB 2 (some .byte)]
theorem tab_of {a : Array Value} {s : State} (h : ∀ w ∈ words, w.before a s = true) : New1.tab.before a s = true := by
  have h5 : Cmp5.tab.before a s = true := unparts (wk h (.code Cmp5.yN Cmp5.yB 7 (some .int))) (wks h (.initialized Cmp5.yN.cls :: Cmp5.site))
  have hc : CodL.tab.before a s = true := unparts (wk h (.code CodL.yN CodL.yB 2 (some .byte))) (wks h (.initialized CodL.yN.cls :: CodL.site))
  have q5 : ∀ w ∈ Cmp5.tab :: words, w.before a s = true := fun w hw => (List.mem_cons.mp hw).elim (fun e => e ▸ h5) (h w)
  have h3 : Cmp3.tab.before a s = true := unparts (wk q5 (.code Cmp3.yN Cmp3.yB 6 (some (.array .byte)))) (wks q5 (.initialized Cmp3.yN.cls :: Cmp3.site))
  have q3 : ∀ w ∈ Cmp3.tab :: CodL.tab :: words, w.before a s = true := fun w hw => (List.mem_cons.mp hw).elim (fun e => e ▸ h3) fun hw => (List.mem_cons.mp hw).elim (fun e => e ▸ hc) (h w)
  have h4 : New4.tab.before a s = true := unparts (wk q3 (.code New4.yN New4.yB 6 none)) (wks q3 (.initialized New4.yN.cls :: New4.site))
  have q4 : ∀ w ∈ New4.tab :: words, w.before a s = true := fun w hw => (List.mem_cons.mp hw).elim (fun e => e ▸ h4) (h w)
  exact unparts (wk q4 (.code New1.yN New1.yB 2 none)) (wks q4 (.initialized New1.yN.cls :: New1.site))
/-- the words ride from the start Z to the walk's own state -/
theorem moved {Z s : State} {a0 args : Array Value} (hZ : Z.Warmed39 s.vm) (hw : ∀ d ∈ words, d.before a0 Z = true) : ∀ d ∈ words, d.before args s = true := fun d hd => by
  have q := hw d hd
  have t : ∀ d ∈ words, d = .arrayClass .byte ∨ (d.onTables && d.keepsFace) = true := by decide +kernel
  rcases t d hd with rfl | t
  · exact RoadKit.mvA hZ q
  · exact RoadKit.mv hZ q t
/-- WHAT COMES BACK, over the tables of the start Z: h the heap at the call, h' behind it -/
def Q (Z : State) (x : Addr) (A : Cell) (h : Heap) (v : Option Value) (h' : Heap) (L : List Loc) : Prop := v = none ∧ (∀ y ∈ L, y.base = x) ∧ RoadKit.Keep h h' [x] ∧ h'.size = h.size + 1 ∧ RoadKit.Exa Z h' x ST ∧ RoadKit.Fld Z h' x ST "value" "[B" (.ref h.size) ∧ RoadKit.Fld Z h' x ST "coder" "B" (.int 0) ∧
  (∃ V : Cell, RoadKit.Arr Z h' h.size V .byte ∧ V.vm = .none ∧ Z.vm.findClass "[B" = some V.cls ∧ V.slots.size = A.slots.size ∧ ∀ j, j < A.slots.size → V.slots[j]? = some (.int (lo8 (cv A j)))) ∧
  ∀ (O n d : String) (w : Value), RoadKit.Fld Z h x O n d w → RoadKit.slotOf Z O n d ≠ RoadKit.slotOf Z ST "value" "[B" → RoadKit.slotOf Z O n d ≠ RoadKit.slotOf Z ST "coder" "B" → RoadKit.Fld Z h' x O n d w
/-- **new String(chars) AT A CALL, IN THE ROAD'S FORM**: for specialBack behind newO: x the fresh String, b the char[] with the cell A -/
theorem back {p : Program} {l : Launch} {e : Env} {R : Room} {s : State} {args : Array Value} {below : List Frame} {len W : Nat} {Z : State} {a0 : Array Value} {h : Heap} (hZ : Z.Warmed39 s.vm) (hw : ∀ d ∈ words, d.before a0 Z = true) {kI : Nat} (wi : (Jvm.Cond.instantiable ST kI).before a0 Z = true)
    {x b : Addr} {A : Cell} {z : Int32} {v0 c0 : Value} (E : RoadKit.Exa Z h x ST) (V : RoadKit.Fld Z h x ST "value" "[B" v0) (C : RoadKit.Fld Z h x ST "coder" "B" c0) (K : RoadKit.Arr Z h b A .char) (hty : Typed .char A) (S : RoadKit.Sta Z h ST "COMPACT_STRINGS" "Z" (.int z)) (hz : ¬ z = 0)
    (l0 : 0 < A.slots.size) (l2 : A.slots.size ≤ 536870912) (hp : ∀ i, i < A.slots.size → ¬ 255 < cv A i) (hfr : 4 ≤ R.frames) (hlo : W + 65 ≤ R.locals) :
    Back l R p e below s args New1.yN len W (fun P a => a = #[.ref x, .ref b] ∧ P.U.heap = h ∧ P.cells + 1 ≤ R.cells ∧ P.slots + A.slots.size ≤ R.slots)
      (fun P _ v B => ∃ L, Q Z x A h v B.U.heap L ∧ B.locs = P.locs ++ L ∧ B.cells = P.cells + 1 ∧ B.slots = P.slots + A.slots.size) := by
  intro m meth c P g ig mk a X hg hsize hdg hW hn hp'
  obtain ⟨rfl, rfl, r1, r2⟩ := hp'
  have al : Z.vm.Alike P.U.vm := hZ.alike.trans X.warmed.alike
  obtain ⟨D, cfV, kV, iV, fV, hD, gV, stV, knV, obV, asV, slV⟩ := id V
  obtain ⟨D', cfC, kC, iC, fC, hD', gC, stC, -, -, asC, slC⟩ := id C
  cases hD.symm.trans hD'
  obtain ⟨D2, kD, e1, e2, e3, e4, e5⟩ := id E
  cases hD.symm.trans e1
  obtain ⟨c2, k2, i1, i2, i3, -⟩ := Cond.instantiable_spec wi
  cases e2.symm.trans i1
  cases e3.symm.trans i2
  obtain ⟨kU, u1, u2⟩ := al.2.2 _ _ e3
  have hB : Blank ST x D P.U := ⟨hD, ⟨knV, fun q hq => by rw [hq] at obV; cases obV⟩, by rw [al.findClass]; exact e2, kU, u1, by rw [u2]; exact i3, by rw [u2]; exact e5 i3⟩
  have F1 : Found ST "value" "[B" fV P.U := ⟨SBG.found_only al ⟨cfV, kV, iV, gV⟩, stV⟩
  have F2 : Found ST "coder" "B" fC P.U := ⟨SBG.found_only al ⟨cfC, kC, iC, gC⟩, stC⟩
  have hA : Ch b A P.U := ⟨⟨K.1, State.isArrayOf_alike al K.2.1, K.2.2, by omega⟩, hty⟩
  have hS : StaticIs P.U ST "COMPACT_STRINGS" "Z" (.int z) := by
    obtain ⟨cfS, iS, kS, fS, st, cS, t1, t2, t3, t4, t5, t6, t7⟩ := S
    exact StaticIs.there (s := { Z with heap := P.U.heap }) ⟨cfS, iS, kS, fS, st, cS, t1, t2, t3, t4, t5, (fun q => by rw [q] at t6; cases t6), t7⟩ al rfl
  obtain ⟨v, B, X', ⟨⟨hv, E', V', q1, q2, q3, q4, q5, q6, q7, q8, q9, q10, q11⟩, hl, hc, hs⟩, st⟩ := New1.pays x D fV fC b A z (tab_of (moved hZ hw)) hfr hlo m meth c P g ig mk _ X hg hsize hdg hW hn ⟨r1, r2, rfl, hB, F1, F2, hA, hS, hz, l0, l2, hp⟩
  have al' : Z.vm.Alike B.U.vm := hZ.alike.trans X'.warmed.alike
  have hsz : E'.slots.size = D.slots.size := by
    obtain ⟨-, -, -, kB, w1, w2, w3⟩ := q1
    obtain ⟨kB', y1, y2⟩ := al'.2.2 _ _ e3
    rw [q2.2.1] at w1
    cases w1.symm.trans y1
    rw [w3, e5 i3, y2]
  refine ⟨v, B, X', ⟨_, ⟨hv, ?_, ⟨by omega, fun y cy hy hn' => q10 y cy (by simpa using hn') hy, fun y cy hy => ?_⟩, q11, ⟨E', _, q1.1, by rw [q2.2.1]; exact e2, by rw [q2.2.1]; exact e3, by rw [q2.1]; exact obV, fun _ => by rw [hsz]; exact e5 i3⟩,
    ⟨E', cfV, kV, iV, fV, q1.1, gV, stV, by rw [q2.1]; exact knV, by rw [q2.1]; exact obV, by rw [q2.2.1]; exact asV, q3⟩, ⟨E', cfC, kC, iC, fC, q1.1, gC, stC, by rw [q2.1]; exact knV, by rw [q2.1]; exact obV, by rw [q2.2.1]; exact asC, q4⟩,
    ⟨V', ⟨q5.1, State.isArrayOf_alike al'.symm q5.2.1, q5.2.2.1⟩, q6, by rw [← al'.findClass]; exact q7, q8, fun j hj => by have := q9 j hj; rwa [Nat.zero_add] at this⟩, fun O n d w F n1 n2 => ?_⟩, hl, hc, hs⟩, st⟩
  · intro y hy
    simp only [List.mem_cons, List.not_mem_nil, or_false] at hy
    rcases hy with rfl | rfl <;> rfl
  · by_cases q : y = x
    · subst q
      cases hD.symm.trans hy
      exact ⟨E', q1.1, q2.2.1, q2.1, hsz⟩
    · exact ⟨cy, q10 y cy q hy, rfl, rfl, rfl⟩
  · obtain ⟨D3, cf, k, i, f, g1, g2, g3, g4, g5, g6, g7⟩ := F
    cases hD.symm.trans g1
    simp only [RoadKit.slotOf, g2, gV, gC, Option.map_some, Option.getD_some] at n1 n2
    exact ⟨E', cf, k, i, f, q1.1, g2, g3, by rw [q2.1]; exact g4, by rw [q2.1]; exact g5, by rw [q2.2.1]; exact g6, by rw [q2.2.2 f.slot (by simp [n1, n2])]; exact g7⟩
end StrChars.Road
namespace StrChars.Road
open Jvm Sem ClassFile Op Lib Jvm.Stand Jvm.Free Jvm.Free.XT
/-- WHAT COMES BACK, the byte[] as a list of values -/
def QA (Z : State) (x : Addr) (zn : Int32) (cs : List Int32) (h : Heap) (v : Option Value) (h' : Heap) (L : List Loc) : Prop := v = none ∧ (∀ y ∈ L, y.base = x) ∧ RoadKit.Keep h h' [x] ∧ h'.size = h.size + 1 ∧ RoadKit.Exa Z h' x ST ∧ RoadKit.Fld Z h' x ST "value" "[B" (.ref h.size) ∧ RoadKit.Fld Z h' x ST "coder" "B" (.int 0) ∧
  (∃ kb, Z.vm.findClass "[B" = some kb ∧ RoadKit.Arv Z h' h.size kb .byte zn (cs.map fun c => .int (lo8 c)) (.int 0)) ∧
  ∀ (O n d : String) (w : Value), RoadKit.Fld Z h x O n d w → RoadKit.slotOf Z O n d ≠ RoadKit.slotOf Z ST "value" "[B" → RoadKit.slotOf Z O n d ≠ RoadKit.slotOf Z ST "coder" "B" → RoadKit.Fld Z h' x O n d w
/-- **new String(chars) AT A CALL, THE ARRAYS AS LISTS**: the char[] at b holds cs, not empty, no char above 255 -/
theorem backArv {p : Program} {l : Launch} {e : Env} {R : Room} {s : State} {args : Array Value} {below : List Frame} {len W : Nat} {Z : State} {a0 : Array Value} {h : Heap} (hZ : Z.Warmed39 s.vm) (hw : ∀ d ∈ words, d.before a0 Z = true) {kI : Nat} (wi : (Jvm.Cond.instantiable ST kI).before a0 Z = true)
    {x b : Addr} {k : ClassId} {zn z : Int32} {cs : List Int32} {dv v0 c0 : Value} (E : RoadKit.Exa Z h x ST) (V : RoadKit.Fld Z h x ST "value" "[B" v0) (C : RoadKit.Fld Z h x ST "coder" "B" c0) (K : RoadKit.Arv Z h b k .char zn (cs.map Value.int) dv) (S : RoadKit.Sta Z h ST "COMPACT_STRINGS" "Z" (.int z)) (hz : ¬ z = 0)
    (hlen : zn.toNatClampNeg = cs.length) (h0 : 0 < cs.length) (hbig : cs.length ≤ 536870912) (hall : ∀ c ∈ cs, ¬ 255 < c) (hfr : 4 ≤ R.frames) (hlo : W + 65 ≤ R.locals) :
    Back l R p e below s args New1.yN len W (fun P a => a = #[.ref x, .ref b] ∧ P.U.heap = h ∧ P.cells + 1 ≤ R.cells ∧ P.slots + cs.length ≤ R.slots)
      (fun P _ v B => ∃ L, QA Z x zn cs h v B.U.heap L ∧ B.locs = P.locs ++ L ∧ B.cells = P.cells + 1 ∧ B.slots = P.slots + cs.length) := by
  obtain ⟨A, K1, K2, K3, K4, K5, K6⟩ := K
  have e : A.slots.size = cs.length := K3.trans hlen
  have hat : ∀ (i : Nat) (hi : i < cs.length), A.slots[i]? = some (.int cs[i]) := fun i hi => by rw [K5 i (by omega)]; simp [List.getD_eq_getElem?_getD, hi]
  have hcv : ∀ (i : Nat) (hi : i < cs.length), cv A i = cs[i] := fun i hi => by unfold cv; rw [hat i hi]
  have hty : Typed .char A := fun i v hv => by
    have hi : i < A.slots.size := (Array.getElem?_eq_some_iff.mp hv).1
    have q := K5 i hi
    rw [hv] at q
    rw [Option.some.inj q]
    exact K6 i hi
  refine Back.mono (back hZ hw wi E V C K1 hty S hz (by omega) (by omega) (fun i hi => by rw [hcv i (by omega)]; exact hall _ (List.getElem_mem _)) hfr hlo) (fun P a hp => ⟨hp.1, hp.2.1, hp.2.2.1, by rw [e]; exact hp.2.2.2⟩) (fun P a v B hp hq => ?_)
  obtain ⟨L, ⟨q1, q2, q3, q4, q5, q6, q7, ⟨V', v1, v2, v3, v4, v5⟩, q9⟩, hl, hc, hs⟩ := hq
  refine ⟨L, ⟨q1, q2, q3, q4, q5, q6, q7, ⟨V'.cls, v3, V', v1, rfl, by rw [v4, e, hlen], K4, fun i hi => ?_, fun i hi => ?_⟩, q9⟩, hl, hc, by rw [hs, e]⟩
  · have hi' : i < cs.length := by omega
    rw [v5 i (by omega), hcv i hi']; simp [List.getD_eq_getElem?_getD, hi']
  · have hi' : i < cs.length := by omega
    simp only [List.getD_eq_getElem?_getD, List.getElem?_map, List.getElem?_eq_getElem hi', Option.map_some, Option.getD_some]
    exact fits_lo8 _
end StrChars.Road
namespace StrChars.Road
open Jvm Sem ClassFile Op Lib Jvm.Stand Jvm.Free Jvm.Free.XT
/-- WHAT COMES BACK, in the writer's own shape -/
def QV (Z : State) (x : Addr) (N : Int32) (bs : List Int32) (h : Heap) (n0 : Nat) (v : Option Value) (h' : Heap) (L : List Loc) : Prop := v = none ∧ RoadKit.Fr n0 L ∧ RoadKit.Keep h h' [x] ∧ RoadKit.Exa Z h' x ST ∧ RoadKit.Fld Z h' x ST "coder" "B" (.int 0) ∧
  ∃ (t : Addr) (kb : ClassId), n0 ≤ t ∧ h.size ≤ t ∧ ¬ t = x ∧ RoadKit.Fld Z h' x ST "value" "[B" (.ref t) ∧ RoadKit.Arv Z h' t kb .byte N (bs.map Value.int) (.int 0)
/-- **new String(chars) AT A CALL, FOR THE WRITER**: a char[] of n known ints, each 0 to 255 -/
theorem backV {p : Program} {l : Launch} {e : Env} {R : Room} {s : State} {args : Array Value} {below : List Frame} {len W : Nat} {Z : State} {a0 : Array Value} {h : Heap} (hZ : Z.Warmed39 s.vm) (hw : ∀ d ∈ words, d.before a0 Z = true) {kI : Nat} (wi : (Jvm.Cond.instantiable ST kI).before a0 Z = true)
    {x b : Addr} {kC : ClassId} {cs bs : List Int32} {d v0 c0 : Value} {z N : Int32} {n n0 : Nat} (hx0 : n0 ≤ x) (hh0 : n0 ≤ h.size) (E : RoadKit.Exa Z h x ST) (V : RoadKit.Fld Z h x ST "value" "[B" v0) (C : RoadKit.Fld Z h x ST "coder" "B" c0) (K : RoadKit.Arv Z h b kC .char N (cs.map Value.int) d) (S : RoadKit.Sta Z h ST "COMPACT_STRINGS" "Z" (.int z)) (hz : ¬ z = 0)
    (hn : cs.length = n) (hN : N = Int32.ofNat n) (l0 : 0 < n) (l2 : n ≤ 4000) (hp : ∀ c ∈ cs, ¬ c < 0 ∧ ¬ (255 : Int32) < c) (hb : bs = cs.map (fun c => c.toInt8.toInt32)) (hfr : 4 ≤ R.frames) (hlo : W + 65 ≤ R.locals) :
    Back l R p e below s args (⟨"java/lang/String", "<init>", "([C)V"⟩ : MethodName) len W (fun P a => a = #[.ref x, .ref b] ∧ P.U.heap = h ∧ P.cells + 1 ≤ R.cells ∧ P.slots + n ≤ R.slots)
      (fun P _ v B => ∃ L, QV Z x N bs h n0 v B.U.heap L ∧ B.locs = P.locs ++ L ∧ B.cells = P.cells + 1 ∧ B.slots = P.slots + n) := by
  subst hn hN hb
  refine Back.mono (backArv hZ hw wi E V C K S hz (n32 (by omega)) l0 (by omega) (fun c hc => (hp c hc).2) hfr hlo) (fun P a hp => hp) (fun P a v B hp hq => ?_)
  obtain ⟨L, ⟨q1, q2, q3, q4, q5, q6, q7, ⟨kb, v1, v2⟩, q9⟩, hl, hc, hs⟩ := hq
  exact ⟨L, ⟨q1, fun y hy => by rw [q2 y hy]; exact hx0, q3, q5, q7, h.size, kb, hh0, Nat.le_refl _, Nat.ne_of_gt E.lt, q6, by rw [List.map_map]; exact v2⟩, hl, hc, hs⟩
end StrChars.Road
end Jvm.Pilot.@@N@@
namespace Jvm.Pilot.@@N@@
open Jvm Jvm.ClassFile Sem Op Lib Jvm.Free Jvm.Stand Jvm.LawKit Jvm.RoadKit Bundle Jvm.Pilot.@@N@@.Jvm.D
theorem own_cat {v : Value} (h : v.isRef = true) : v.category = 1 := by cases v <;> first | rfl | (simp [Value.isRef] at h)
theorem own_cr (a : Addr) : (Value.ref a).category = 1 := rfl
theorem own_ci (a : Int32) : (Value.int a).category = 1 := rfl
theorem own_cj (a : Int64) : (Value.long a).category = 2 := rfl
theorem own_cn : Value.null.category = 1 := rfl
theorem own_nar {v : Value} {t : FieldType} (ht : t.isReference = true) (h : v.isRef = true) : narrow t v = v := by
  rcases ref_cases h with rfl | ⟨a, rfl⟩ <;> cases t <;> first | rfl | (simp [FieldType.isReference] at ht)
theorem own_fits {v : Value} {t : FieldType} (ht : t.isReference = true) (h : v.isRef = true) : fits t v = true := by
  rcases ref_cases h with rfl | ⟨a, rfl⟩ <;> cases t <;> first | rfl | (simp [FieldType.isReference] at ht)
theorem own_store {l l' : Array Slot} {i : Nat} {v : Value} {o : Slot} (hold : l[i]? = some o) (ho : o = .unset ∨ ∃ w, o = .val w ∧ w.category = 1) (hv : v.category = 1) (e : l.setIfInBounds i (.val v) = l') : storeLocals l i v = some l' := by
  rw [Jvm.Free.XS.store1 hold ho hv, e]
def Glob (Z : State) (a0 : Array Value) (G1 : Int32) (em : Addr) (k0 : Addr) (k1 : Addr) (k2 : Addr) (k3 : Addr) (k4 : Addr) (k5 : Addr) : Prop := (∀ d ∈ tables_1, d.before a0 Z = true) ∧ (Sta Z Z.heap "java/lang/String" "COMPACT_STRINGS" "Z" (.int G1)) ∧ (¬ (G1 = (0 : Int32))) ∧ (Sta Z Z.heap "java/util/Optional" "EMPTY" "Ljava/util/Optional;" (.ref em)) ∧ (Exa Z Z.heap em "java/util/Optional") ∧ (Fld Z Z.heap em "java/util/Optional" "value" "Ljava/lang/Object;" .null) ∧ (Sta Z Z.heap "com/example/clauses_to_controls/clausestocontrols/service/TailoringFinding$Kind" "UNKNOWN" "Lcom/example/clauses_to_controls/clausestocontrols/service/TailoringFinding$Kind;" (.ref k0)) ∧ (Sta Z Z.heap "com/example/clauses_to_controls/clausestocontrols/service/TailoringFinding$Kind" "DUPLICATE" "Lcom/example/clauses_to_controls/clausestocontrols/service/TailoringFinding$Kind;" (.ref k1)) ∧ (Sta Z Z.heap "com/example/clauses_to_controls/clausestocontrols/service/TailoringFinding$Kind" "NOT_TAILORABLE" "Lcom/example/clauses_to_controls/clausestocontrols/service/TailoringFinding$Kind;" (.ref k2)) ∧ (Sta Z Z.heap "com/example/clauses_to_controls/clausestocontrols/service/TailoringFinding$Kind" "INVALID" "Lcom/example/clauses_to_controls/clausestocontrols/service/TailoringFinding$Kind;" (.ref k3)) ∧ (Sta Z Z.heap "com/example/clauses_to_controls/clausestocontrols/service/TailoringFinding$Kind" "LOOSER" "Lcom/example/clauses_to_controls/clausestocontrols/service/TailoringFinding$Kind;" (.ref k4)) ∧ (Sta Z Z.heap "com/example/clauses_to_controls/clausestocontrols/service/TailoringFinding$Kind" "MISSING" "Lcom/example/clauses_to_controls/clausestocontrols/service/TailoringFinding$Kind;" (.ref k5))
theorem own_hws {Z : State} {a0 : Array Value} (hw : ∀ d ∈ tables_1, d.before a0 Z = true) : ∀ d ∈ StrChars.Road.words, d.before a0 Z = true := fun d hd => hw d ((by decide +kernel : ∀ d ∈ StrChars.Road.words, d ∈ tables_1) d hd)
theorem own_char255 (x : Int32) : ¬ nar .char ((x &&& (255 : Int32)).toUInt32.toUInt16.toUInt32.toInt32) < 0 ∧ ¬ (255 : Int32) < nar .char ((x &&& (255 : Int32)).toUInt32.toUInt16.toUInt32.toInt32) := by
  have t : ∀ k : Fin 256, ¬ nar .char ((Int32.ofNat k.val).toUInt32.toUInt16.toUInt32.toInt32) < 0 ∧ ¬ (255 : Int32) < nar .char ((Int32.ofNat k.val).toUInt32.toUInt16.toUInt32.toInt32) := by decide +kernel
  have h : (x &&& 255).toBitVec.toNat < 256 := by
    simp only [Int32.toBitVec_and, BitVec.toNat_and]
    exact Nat.lt_succ_of_le Nat.and_le_right
  have e : (x &&& 255) = Int32.ofNat (x &&& 255).toBitVec.toNat := by
    apply Int32.toBitVec_inj.mp
    show _ = BitVec.ofNat 32 _
    rw [BitVec.ofNat_toNat]; simp
  rw [e]
  exact t ⟨_, h⟩
theorem dx_method_2_code_0 : decode method_2_code 0 = .ok (.iload_n 0, 1) := by decide +kernel
theorem dx_method_2_code_1 : decode method_2_code 1 = .ok (.ifCond .ne 7, 3) := by decide +kernel
theorem dx_method_2_code_4 : decode method_2_code 4 = .ok (.getstatic 7, 3) := by decide +kernel
theorem dx_method_2_code_7 : decode method_2_code 7 = .ok (.areturn, 1) := by decide +kernel
theorem dx_method_2_code_8 : decode method_2_code 8 = .ok (.iload_n 0, 1) := by decide +kernel
theorem dx_method_2_code_9 : decode method_2_code 9 = .ok (.iconst 1, 1) := by decide +kernel
theorem dx_method_2_code_10 : decode method_2_code 10 = .ok (.if_icmp .ne 7, 3) := by decide +kernel
theorem dx_method_2_code_13 : decode method_2_code 13 = .ok (.getstatic 13, 3) := by decide +kernel
theorem dx_method_2_code_16 : decode method_2_code 16 = .ok (.areturn, 1) := by decide +kernel
theorem dx_method_2_code_17 : decode method_2_code 17 = .ok (.iload_n 0, 1) := by decide +kernel
theorem dx_method_2_code_18 : decode method_2_code 18 = .ok (.iconst 2, 1) := by decide +kernel
theorem dx_method_2_code_19 : decode method_2_code 19 = .ok (.if_icmp .ne 7, 3) := by decide +kernel
theorem dx_method_2_code_22 : decode method_2_code 22 = .ok (.getstatic 16, 3) := by decide +kernel
theorem dx_method_2_code_25 : decode method_2_code 25 = .ok (.areturn, 1) := by decide +kernel
theorem dx_method_2_code_26 : decode method_2_code 26 = .ok (.iload_n 0, 1) := by decide +kernel
theorem dx_method_2_code_27 : decode method_2_code 27 = .ok (.iconst 3, 1) := by decide +kernel
theorem dx_method_2_code_28 : decode method_2_code 28 = .ok (.if_icmp .ne 7, 3) := by decide +kernel
theorem dx_method_2_code_31 : decode method_2_code 31 = .ok (.getstatic 19, 3) := by decide +kernel
theorem dx_method_2_code_34 : decode method_2_code 34 = .ok (.areturn, 1) := by decide +kernel
theorem dx_method_2_code_35 : decode method_2_code 35 = .ok (.iload_n 0, 1) := by decide +kernel
theorem dx_method_2_code_36 : decode method_2_code 36 = .ok (.iconst 4, 1) := by decide +kernel
theorem dx_method_2_code_37 : decode method_2_code 37 = .ok (.if_icmp .ne 7, 3) := by decide +kernel
theorem dx_method_2_code_40 : decode method_2_code 40 = .ok (.getstatic 22, 3) := by decide +kernel
theorem dx_method_2_code_43 : decode method_2_code 43 = .ok (.areturn, 1) := by decide +kernel
theorem dx_method_2_code_44 : decode method_2_code 44 = .ok (.getstatic 25, 3) := by decide +kernel
theorem dx_method_2_code_47 : decode method_2_code 47 = .ok (.areturn, 1) := by decide +kernel
def Qkof (Z : State) (G1 : Int32) (em : Addr) (k0 : Addr) (k1 : Addr) (k2 : Addr) (k3 : Addr) (k4 : Addr) (k5 : Addr) (pz : Int32) (h0 : Heap) (n0 : Nat) (v : Option Value) (h : Heap) (L : List Loc) : Prop := ∃ k : Addr, v = some (.ref k) ∧ Fr n0 L ∧ h = h0
theorem ef_method_2_code_I (m : MethodId) (x0 : Int32) : entryFrame m #[(.int x0)] 1 = mkF m 0 #[.val (.int x0)] [] := by first | (simp [entryFrame, mkF, argsToLocals, Value.category]; done) | rfl
abbrev y0 : MethodName := ⟨"com/example/clauses_to_controls/clausestocontrols/service/TailoringFindingAboutPinLaw", "kindOf", "(I)Lcom/example/clauses_to_controls/clausestocontrols/service/TailoringFinding$Kind;"⟩
theorem pn_com_example_clauses_to_controls_clausestocontrols_service_TailoringFindingAboutPinLaw : plainName "com/example/clauses_to_controls/clausestocontrols/service/TailoringFindingAboutPinLaw" = true := by first | (simp [plainName, overriddenIn]; done) | decide +kernel
set_option maxRecDepth 65536 in
set_option maxHeartbeats 40000000 in
theorem rmkof_0 (l : Launch) (Z : State) (a0 : Array Value) (G1 : Int32) (em : Addr) (k0 : Addr) (k1 : Addr) (k2 : Addr) (k3 : Addr) (k4 : Addr) (k5 : Addr) (hG : Glob Z a0 G1 em k0 k1 k2 k3 k4 k5) (ws : List Jvm.Cond) (pz : Int32) (h0 : Heap) (n0 : Nat) (Z0 : n0 ≤ h0.size) (X00 : Old Z n0 h0) (hc1 : pz = (0 : Int32)) :
    MetFree l y0 (head1 (Jvm.Cond.code y0 method_2_code 1 (some (.object "com/example/clauses_to_controls/clausestocontrols/service/TailoringFinding$Kind")) :: ws) ({ frames := 0, cells := 0, slots := 0, locals := 0 } : Room)) (fun a U => a = #[(.int pz)] ∧ Z.Warmed39 U.vm ∧ U.heap = h0) (fun _ _ _ _ _ => True) (fun _ U o U' => ∃ v L, o = .returned v ∧ Qkof Z G1 em k0 k1 k2 k3 k4 k5 pz h0 n0 v U'.heap L ∧ FrameEnd U o U' L ({ frames := 0, cells := 0, slots := 0, locals := 0 } : Room).cells ({ frames := 0, cells := 0, slots := 0, locals := 0 } : Room).slots) := by
  obtain ⟨hw, O_cs, P_cs, O_em, O_eem, O_vem, O_k0, O_k1, O_k2, O_k3, O_k4, O_k5⟩ := id hG
  have W : ∀ (i : Nat) {d : Jvm.Cond}, tables_1[i]? = some d → d.before a0 Z = true := fun i d h => hw d (List.mem_of_getElem? h)
  refine MetFree.of_bodySF (plainFor_of_name pn_com_example_clauses_to_controls_clausestocontrols_service_TailoringFindingAboutPinLaw) hisR ?_
  intro p e s m args below meth c s₁ Bd hml0 hP hK
  obtain ⟨rfl, hZ, hh⟩ := hP
  have hx := Bd.exec
  have hby := Bd.bytes
  have hml : c.maxLocals = 1 := hml0
  have hown : s.vm.findClass "com/example/clauses_to_controls/clausestocontrols/service/TailoringFindingAboutPinLaw" = some m.cls := findClass_of_methodNamed Bd.named
  have hnm := (name_of_methodNamed Bd.named Bd.method).1
  have X0 : Stand p l e ({ frames := 0, cells := 0, slots := 0, locals := 0 } : Room) s m #[(.int pz)] below meth c s₁ [] 0 0 := Stand.of_body Bd
  have e0 : s₁.heap = h0 := by rw [← hh, Bd.state]; rfl
  have N0 := Fr.nil n0
  have pre0 : ∀ t, Steps p.tables e below (s₁.setTop (mkF m 0 #[.val (.int pz)] [])) t → Steps p.tables e below (s₁.setTop (entryFrame m #[(.int pz)] 1)) t := fun t kk_ => castTop (ef_method_2_code_I m pz) kk_
  obtain ⟨T1, X1, e1, st1⟩ := getS2 X0 hx hZ hown (host := "") (Or.inl (W 5 rfl)) Via.refl e0 (O_k0.ext X00.2) (g := (mkF m 4 #[.val (.int pz)] [])) rfl (hb hby dx_method_2_code_4)
  obtain ⟨fs, hr, hrun, hended, hW, hsame⟩ := X1.leave (v := some (.ref k0)) (fun h => by rw [Bd.returns] at h; cases h)
  refine ⟨_, _, pre0 _ ?_, hrun, hended, _, _, rfl, ?_, ⟨_, rfl⟩, hW, hsame.mono (Nat.le_of_ble_eq_true rfl) (Nat.le_of_ble_eq_true rfl)⟩
  · show Steps p.tables e below (s₁.setTop (mkF m 0 #[.val (.int pz)] [])) _
    refine XS.iloadN X0.here hx rfl (hb hby dx_method_2_code_0) rfl ?_
    show Steps p.tables e below (s₁.setTop (mkF m 1 #[.val (.int pz)] [(.int pz)])) _
    refine XS.ifNo X0.here hx rfl (hb hby dx_method_2_code_1) rfl ((if0 _ _).trans (teq (hc1 : pz = (0 : Int32))).2) ?_
    show Steps p.tables e below (s₁.setTop (mkF m 4 #[.val (.int pz)] [])) _
    refine st1 _ ?_
    show Steps p.tables e below (T1.setTop (mkF m 7 #[.val (.int pz)] [(.ref k0)])) _
    exact retOut X1 hx Bd.returns rfl (Or.inr (Or.inr (Or.inr (Or.inr ⟨rfl, rfl, rfl⟩)))) (hb hby dx_method_2_code_7) hr
  · show Qkof Z G1 em k0 k1 k2 k3 k4 k5 pz h0 n0 _ T1.heap _
    rw [e1]
    exact ⟨k0, rfl, N0, rfl⟩
set_option maxRecDepth 65536 in
set_option maxHeartbeats 40000000 in
theorem rmkof_1 (l : Launch) (Z : State) (a0 : Array Value) (G1 : Int32) (em : Addr) (k0 : Addr) (k1 : Addr) (k2 : Addr) (k3 : Addr) (k4 : Addr) (k5 : Addr) (hG : Glob Z a0 G1 em k0 k1 k2 k3 k4 k5) (ws : List Jvm.Cond) (pz : Int32) (h0 : Heap) (n0 : Nat) (Z0 : n0 ≤ h0.size) (X00 : Old Z n0 h0) (hc1 : ¬ (pz = (0 : Int32))) (hc10 : pz = (1 : Int32)) :
    MetFree l y0 (head1 (Jvm.Cond.code y0 method_2_code 1 (some (.object "com/example/clauses_to_controls/clausestocontrols/service/TailoringFinding$Kind")) :: ws) ({ frames := 0, cells := 0, slots := 0, locals := 0 } : Room)) (fun a U => a = #[(.int pz)] ∧ Z.Warmed39 U.vm ∧ U.heap = h0) (fun _ _ _ _ _ => True) (fun _ U o U' => ∃ v L, o = .returned v ∧ Qkof Z G1 em k0 k1 k2 k3 k4 k5 pz h0 n0 v U'.heap L ∧ FrameEnd U o U' L ({ frames := 0, cells := 0, slots := 0, locals := 0 } : Room).cells ({ frames := 0, cells := 0, slots := 0, locals := 0 } : Room).slots) := by
  obtain ⟨hw, O_cs, P_cs, O_em, O_eem, O_vem, O_k0, O_k1, O_k2, O_k3, O_k4, O_k5⟩ := id hG
  have W : ∀ (i : Nat) {d : Jvm.Cond}, tables_1[i]? = some d → d.before a0 Z = true := fun i d h => hw d (List.mem_of_getElem? h)
  refine MetFree.of_bodySF (plainFor_of_name pn_com_example_clauses_to_controls_clausestocontrols_service_TailoringFindingAboutPinLaw) hisR ?_
  intro p e s m args below meth c s₁ Bd hml0 hP hK
  obtain ⟨rfl, hZ, hh⟩ := hP
  have hx := Bd.exec
  have hby := Bd.bytes
  have hml : c.maxLocals = 1 := hml0
  have hown : s.vm.findClass "com/example/clauses_to_controls/clausestocontrols/service/TailoringFindingAboutPinLaw" = some m.cls := findClass_of_methodNamed Bd.named
  have hnm := (name_of_methodNamed Bd.named Bd.method).1
  have X0 : Stand p l e ({ frames := 0, cells := 0, slots := 0, locals := 0 } : Room) s m #[(.int pz)] below meth c s₁ [] 0 0 := Stand.of_body Bd
  have e0 : s₁.heap = h0 := by rw [← hh, Bd.state]; rfl
  have N0 := Fr.nil n0
  have pre0 : ∀ t, Steps p.tables e below (s₁.setTop (mkF m 0 #[.val (.int pz)] [])) t → Steps p.tables e below (s₁.setTop (entryFrame m #[(.int pz)] 1)) t := fun t kk_ => castTop (ef_method_2_code_I m pz) kk_
  obtain ⟨T2, X2, e2, st2⟩ := getS2 X0 hx hZ hown (host := "") (Or.inl (W 126 rfl)) Via.refl e0 (O_k1.ext X00.2) (g := (mkF m 13 #[.val (.int pz)] [])) rfl (hb hby dx_method_2_code_13)
  obtain ⟨fs, hr, hrun, hended, hW, hsame⟩ := X2.leave (v := some (.ref k1)) (fun h => by rw [Bd.returns] at h; cases h)
  refine ⟨_, _, pre0 _ ?_, hrun, hended, _, _, rfl, ?_, ⟨_, rfl⟩, hW, hsame.mono (Nat.le_of_ble_eq_true rfl) (Nat.le_of_ble_eq_true rfl)⟩
  · show Steps p.tables e below (s₁.setTop (mkF m 0 #[.val (.int pz)] [])) _
    refine XS.iloadN X0.here hx rfl (hb hby dx_method_2_code_0) rfl ?_
    show Steps p.tables e below (s₁.setTop (mkF m 1 #[.val (.int pz)] [(.int pz)])) _
    refine XS.ifYes X0.here hx rfl (pc0 := 1) (pc' := 8) rfl (hb hby dx_method_2_code_1) rfl ((if0 _ _).trans (feq (hc1 : ¬ (pz = (0 : Int32)))).2) (by decide) (by decide) ?_
    show Steps p.tables e below (s₁.setTop (mkF m 8 #[.val (.int pz)] [])) _
    refine XS.iloadN X0.here hx rfl (hb hby dx_method_2_code_8) rfl ?_
    show Steps p.tables e below (s₁.setTop (mkF m 9 #[.val (.int pz)] [(.int pz)])) _
    refine XS.iconst X0.here hx rfl (hb hby dx_method_2_code_9) ?_
    show Steps p.tables e below (s₁.setTop (mkF m 10 #[.val (.int pz)] [(.int (1 : Int32)), (.int pz)])) _
    refine XS.icmpNo X0.here hx rfl (hb hby dx_method_2_code_10) rfl (teq (hc10 : pz = (1 : Int32))).2 ?_
    show Steps p.tables e below (s₁.setTop (mkF m 13 #[.val (.int pz)] [])) _
    refine st2 _ ?_
    show Steps p.tables e below (T2.setTop (mkF m 16 #[.val (.int pz)] [(.ref k1)])) _
    exact retOut X2 hx Bd.returns rfl (Or.inr (Or.inr (Or.inr (Or.inr ⟨rfl, rfl, rfl⟩)))) (hb hby dx_method_2_code_16) hr
  · show Qkof Z G1 em k0 k1 k2 k3 k4 k5 pz h0 n0 _ T2.heap _
    rw [e2]
    exact ⟨k1, rfl, N0, rfl⟩
set_option maxRecDepth 65536 in
set_option maxHeartbeats 40000000 in
theorem rmkof_2 (l : Launch) (Z : State) (a0 : Array Value) (G1 : Int32) (em : Addr) (k0 : Addr) (k1 : Addr) (k2 : Addr) (k3 : Addr) (k4 : Addr) (k5 : Addr) (hG : Glob Z a0 G1 em k0 k1 k2 k3 k4 k5) (ws : List Jvm.Cond) (pz : Int32) (h0 : Heap) (n0 : Nat) (Z0 : n0 ≤ h0.size) (X00 : Old Z n0 h0) (hc1 : ¬ (pz = (0 : Int32))) (hc10 : ¬ (pz = (1 : Int32))) (hc19 : pz = (2 : Int32)) :
    MetFree l y0 (head1 (Jvm.Cond.code y0 method_2_code 1 (some (.object "com/example/clauses_to_controls/clausestocontrols/service/TailoringFinding$Kind")) :: ws) ({ frames := 0, cells := 0, slots := 0, locals := 0 } : Room)) (fun a U => a = #[(.int pz)] ∧ Z.Warmed39 U.vm ∧ U.heap = h0) (fun _ _ _ _ _ => True) (fun _ U o U' => ∃ v L, o = .returned v ∧ Qkof Z G1 em k0 k1 k2 k3 k4 k5 pz h0 n0 v U'.heap L ∧ FrameEnd U o U' L ({ frames := 0, cells := 0, slots := 0, locals := 0 } : Room).cells ({ frames := 0, cells := 0, slots := 0, locals := 0 } : Room).slots) := by
  obtain ⟨hw, O_cs, P_cs, O_em, O_eem, O_vem, O_k0, O_k1, O_k2, O_k3, O_k4, O_k5⟩ := id hG
  have W : ∀ (i : Nat) {d : Jvm.Cond}, tables_1[i]? = some d → d.before a0 Z = true := fun i d h => hw d (List.mem_of_getElem? h)
  refine MetFree.of_bodySF (plainFor_of_name pn_com_example_clauses_to_controls_clausestocontrols_service_TailoringFindingAboutPinLaw) hisR ?_
  intro p e s m args below meth c s₁ Bd hml0 hP hK
  obtain ⟨rfl, hZ, hh⟩ := hP
  have hx := Bd.exec
  have hby := Bd.bytes
  have hml : c.maxLocals = 1 := hml0
  have hown : s.vm.findClass "com/example/clauses_to_controls/clausestocontrols/service/TailoringFindingAboutPinLaw" = some m.cls := findClass_of_methodNamed Bd.named
  have hnm := (name_of_methodNamed Bd.named Bd.method).1
  have X0 : Stand p l e ({ frames := 0, cells := 0, slots := 0, locals := 0 } : Room) s m #[(.int pz)] below meth c s₁ [] 0 0 := Stand.of_body Bd
  have e0 : s₁.heap = h0 := by rw [← hh, Bd.state]; rfl
  have N0 := Fr.nil n0
  have pre0 : ∀ t, Steps p.tables e below (s₁.setTop (mkF m 0 #[.val (.int pz)] [])) t → Steps p.tables e below (s₁.setTop (entryFrame m #[(.int pz)] 1)) t := fun t kk_ => castTop (ef_method_2_code_I m pz) kk_
  obtain ⟨T3, X3, e3, st3⟩ := getS2 X0 hx hZ hown (host := "") (Or.inl (W 134 rfl)) Via.refl e0 (O_k2.ext X00.2) (g := (mkF m 22 #[.val (.int pz)] [])) rfl (hb hby dx_method_2_code_22)
  obtain ⟨fs, hr, hrun, hended, hW, hsame⟩ := X3.leave (v := some (.ref k2)) (fun h => by rw [Bd.returns] at h; cases h)
  refine ⟨_, _, pre0 _ ?_, hrun, hended, _, _, rfl, ?_, ⟨_, rfl⟩, hW, hsame.mono (Nat.le_of_ble_eq_true rfl) (Nat.le_of_ble_eq_true rfl)⟩
  · show Steps p.tables e below (s₁.setTop (mkF m 0 #[.val (.int pz)] [])) _
    refine XS.iloadN X0.here hx rfl (hb hby dx_method_2_code_0) rfl ?_
    show Steps p.tables e below (s₁.setTop (mkF m 1 #[.val (.int pz)] [(.int pz)])) _
    refine XS.ifYes X0.here hx rfl (pc0 := 1) (pc' := 8) rfl (hb hby dx_method_2_code_1) rfl ((if0 _ _).trans (feq (hc1 : ¬ (pz = (0 : Int32)))).2) (by decide) (by decide) ?_
    show Steps p.tables e below (s₁.setTop (mkF m 8 #[.val (.int pz)] [])) _
    refine XS.iloadN X0.here hx rfl (hb hby dx_method_2_code_8) rfl ?_
    show Steps p.tables e below (s₁.setTop (mkF m 9 #[.val (.int pz)] [(.int pz)])) _
    refine XS.iconst X0.here hx rfl (hb hby dx_method_2_code_9) ?_
    show Steps p.tables e below (s₁.setTop (mkF m 10 #[.val (.int pz)] [(.int (1 : Int32)), (.int pz)])) _
    refine XS.icmpYes X0.here hx rfl (pc0 := 10) (pc' := 17) rfl (hb hby dx_method_2_code_10) rfl (feq (hc10 : ¬ (pz = (1 : Int32)))).2 (by decide) (by decide) ?_
    show Steps p.tables e below (s₁.setTop (mkF m 17 #[.val (.int pz)] [])) _
    refine XS.iloadN X0.here hx rfl (hb hby dx_method_2_code_17) rfl ?_
    show Steps p.tables e below (s₁.setTop (mkF m 18 #[.val (.int pz)] [(.int pz)])) _
    refine XS.iconst X0.here hx rfl (hb hby dx_method_2_code_18) ?_
    show Steps p.tables e below (s₁.setTop (mkF m 19 #[.val (.int pz)] [(.int (2 : Int32)), (.int pz)])) _
    refine XS.icmpNo X0.here hx rfl (hb hby dx_method_2_code_19) rfl (teq (hc19 : pz = (2 : Int32))).2 ?_
    show Steps p.tables e below (s₁.setTop (mkF m 22 #[.val (.int pz)] [])) _
    refine st3 _ ?_
    show Steps p.tables e below (T3.setTop (mkF m 25 #[.val (.int pz)] [(.ref k2)])) _
    exact retOut X3 hx Bd.returns rfl (Or.inr (Or.inr (Or.inr (Or.inr ⟨rfl, rfl, rfl⟩)))) (hb hby dx_method_2_code_25) hr
  · show Qkof Z G1 em k0 k1 k2 k3 k4 k5 pz h0 n0 _ T3.heap _
    rw [e3]
    exact ⟨k2, rfl, N0, rfl⟩
set_option maxRecDepth 65536 in
set_option maxHeartbeats 40000000 in
theorem rmkof_3 (l : Launch) (Z : State) (a0 : Array Value) (G1 : Int32) (em : Addr) (k0 : Addr) (k1 : Addr) (k2 : Addr) (k3 : Addr) (k4 : Addr) (k5 : Addr) (hG : Glob Z a0 G1 em k0 k1 k2 k3 k4 k5) (ws : List Jvm.Cond) (pz : Int32) (h0 : Heap) (n0 : Nat) (Z0 : n0 ≤ h0.size) (X00 : Old Z n0 h0) (hc1 : ¬ (pz = (0 : Int32))) (hc10 : ¬ (pz = (1 : Int32))) (hc19 : ¬ (pz = (2 : Int32))) (hc28 : pz = (3 : Int32)) :
    MetFree l y0 (head1 (Jvm.Cond.code y0 method_2_code 1 (some (.object "com/example/clauses_to_controls/clausestocontrols/service/TailoringFinding$Kind")) :: ws) ({ frames := 0, cells := 0, slots := 0, locals := 0 } : Room)) (fun a U => a = #[(.int pz)] ∧ Z.Warmed39 U.vm ∧ U.heap = h0) (fun _ _ _ _ _ => True) (fun _ U o U' => ∃ v L, o = .returned v ∧ Qkof Z G1 em k0 k1 k2 k3 k4 k5 pz h0 n0 v U'.heap L ∧ FrameEnd U o U' L ({ frames := 0, cells := 0, slots := 0, locals := 0 } : Room).cells ({ frames := 0, cells := 0, slots := 0, locals := 0 } : Room).slots) := by
  obtain ⟨hw, O_cs, P_cs, O_em, O_eem, O_vem, O_k0, O_k1, O_k2, O_k3, O_k4, O_k5⟩ := id hG
  have W : ∀ (i : Nat) {d : Jvm.Cond}, tables_1[i]? = some d → d.before a0 Z = true := fun i d h => hw d (List.mem_of_getElem? h)
  refine MetFree.of_bodySF (plainFor_of_name pn_com_example_clauses_to_controls_clausestocontrols_service_TailoringFindingAboutPinLaw) hisR ?_
  intro p e s m args below meth c s₁ Bd hml0 hP hK
  obtain ⟨rfl, hZ, hh⟩ := hP
  have hx := Bd.exec
  have hby := Bd.bytes
  have hml : c.maxLocals = 1 := hml0
  have hown : s.vm.findClass "com/example/clauses_to_controls/clausestocontrols/service/TailoringFindingAboutPinLaw" = some m.cls := findClass_of_methodNamed Bd.named
  have hnm := (name_of_methodNamed Bd.named Bd.method).1
  have X0 : Stand p l e ({ frames := 0, cells := 0, slots := 0, locals := 0 } : Room) s m #[(.int pz)] below meth c s₁ [] 0 0 := Stand.of_body Bd
  have e0 : s₁.heap = h0 := by rw [← hh, Bd.state]; rfl
  have N0 := Fr.nil n0
  have pre0 : ∀ t, Steps p.tables e below (s₁.setTop (mkF m 0 #[.val (.int pz)] [])) t → Steps p.tables e below (s₁.setTop (entryFrame m #[(.int pz)] 1)) t := fun t kk_ => castTop (ef_method_2_code_I m pz) kk_
  obtain ⟨T4, X4, e4, st4⟩ := getS2 X0 hx hZ hown (host := "") (Or.inl (W 130 rfl)) Via.refl e0 (O_k3.ext X00.2) (g := (mkF m 31 #[.val (.int pz)] [])) rfl (hb hby dx_method_2_code_31)
  obtain ⟨fs, hr, hrun, hended, hW, hsame⟩ := X4.leave (v := some (.ref k3)) (fun h => by rw [Bd.returns] at h; cases h)
  refine ⟨_, _, pre0 _ ?_, hrun, hended, _, _, rfl, ?_, ⟨_, rfl⟩, hW, hsame.mono (Nat.le_of_ble_eq_true rfl) (Nat.le_of_ble_eq_true rfl)⟩
  · show Steps p.tables e below (s₁.setTop (mkF m 0 #[.val (.int pz)] [])) _
    refine XS.iloadN X0.here hx rfl (hb hby dx_method_2_code_0) rfl ?_
    show Steps p.tables e below (s₁.setTop (mkF m 1 #[.val (.int pz)] [(.int pz)])) _
    refine XS.ifYes X0.here hx rfl (pc0 := 1) (pc' := 8) rfl (hb hby dx_method_2_code_1) rfl ((if0 _ _).trans (feq (hc1 : ¬ (pz = (0 : Int32)))).2) (by decide) (by decide) ?_
    show Steps p.tables e below (s₁.setTop (mkF m 8 #[.val (.int pz)] [])) _
    refine XS.iloadN X0.here hx rfl (hb hby dx_method_2_code_8) rfl ?_
    show Steps p.tables e below (s₁.setTop (mkF m 9 #[.val (.int pz)] [(.int pz)])) _
    refine XS.iconst X0.here hx rfl (hb hby dx_method_2_code_9) ?_
    show Steps p.tables e below (s₁.setTop (mkF m 10 #[.val (.int pz)] [(.int (1 : Int32)), (.int pz)])) _
    refine XS.icmpYes X0.here hx rfl (pc0 := 10) (pc' := 17) rfl (hb hby dx_method_2_code_10) rfl (feq (hc10 : ¬ (pz = (1 : Int32)))).2 (by decide) (by decide) ?_
    show Steps p.tables e below (s₁.setTop (mkF m 17 #[.val (.int pz)] [])) _
    refine XS.iloadN X0.here hx rfl (hb hby dx_method_2_code_17) rfl ?_
    show Steps p.tables e below (s₁.setTop (mkF m 18 #[.val (.int pz)] [(.int pz)])) _
    refine XS.iconst X0.here hx rfl (hb hby dx_method_2_code_18) ?_
    show Steps p.tables e below (s₁.setTop (mkF m 19 #[.val (.int pz)] [(.int (2 : Int32)), (.int pz)])) _
    refine XS.icmpYes X0.here hx rfl (pc0 := 19) (pc' := 26) rfl (hb hby dx_method_2_code_19) rfl (feq (hc19 : ¬ (pz = (2 : Int32)))).2 (by decide) (by decide) ?_
    show Steps p.tables e below (s₁.setTop (mkF m 26 #[.val (.int pz)] [])) _
    refine XS.iloadN X0.here hx rfl (hb hby dx_method_2_code_26) rfl ?_
    show Steps p.tables e below (s₁.setTop (mkF m 27 #[.val (.int pz)] [(.int pz)])) _
    refine XS.iconst X0.here hx rfl (hb hby dx_method_2_code_27) ?_
    show Steps p.tables e below (s₁.setTop (mkF m 28 #[.val (.int pz)] [(.int (3 : Int32)), (.int pz)])) _
    refine XS.icmpNo X0.here hx rfl (hb hby dx_method_2_code_28) rfl (teq (hc28 : pz = (3 : Int32))).2 ?_
    show Steps p.tables e below (s₁.setTop (mkF m 31 #[.val (.int pz)] [])) _
    refine st4 _ ?_
    show Steps p.tables e below (T4.setTop (mkF m 34 #[.val (.int pz)] [(.ref k3)])) _
    exact retOut X4 hx Bd.returns rfl (Or.inr (Or.inr (Or.inr (Or.inr ⟨rfl, rfl, rfl⟩)))) (hb hby dx_method_2_code_34) hr
  · show Qkof Z G1 em k0 k1 k2 k3 k4 k5 pz h0 n0 _ T4.heap _
    rw [e4]
    exact ⟨k3, rfl, N0, rfl⟩
set_option maxRecDepth 65536 in
set_option maxHeartbeats 40000000 in
theorem rmkof_4 (l : Launch) (Z : State) (a0 : Array Value) (G1 : Int32) (em : Addr) (k0 : Addr) (k1 : Addr) (k2 : Addr) (k3 : Addr) (k4 : Addr) (k5 : Addr) (hG : Glob Z a0 G1 em k0 k1 k2 k3 k4 k5) (ws : List Jvm.Cond) (pz : Int32) (h0 : Heap) (n0 : Nat) (Z0 : n0 ≤ h0.size) (X00 : Old Z n0 h0) (hc1 : ¬ (pz = (0 : Int32))) (hc10 : ¬ (pz = (1 : Int32))) (hc19 : ¬ (pz = (2 : Int32))) (hc28 : ¬ (pz = (3 : Int32))) (hc37 : pz = (4 : Int32)) :
    MetFree l y0 (head1 (Jvm.Cond.code y0 method_2_code 1 (some (.object "com/example/clauses_to_controls/clausestocontrols/service/TailoringFinding$Kind")) :: ws) ({ frames := 0, cells := 0, slots := 0, locals := 0 } : Room)) (fun a U => a = #[(.int pz)] ∧ Z.Warmed39 U.vm ∧ U.heap = h0) (fun _ _ _ _ _ => True) (fun _ U o U' => ∃ v L, o = .returned v ∧ Qkof Z G1 em k0 k1 k2 k3 k4 k5 pz h0 n0 v U'.heap L ∧ FrameEnd U o U' L ({ frames := 0, cells := 0, slots := 0, locals := 0 } : Room).cells ({ frames := 0, cells := 0, slots := 0, locals := 0 } : Room).slots) := by
  obtain ⟨hw, O_cs, P_cs, O_em, O_eem, O_vem, O_k0, O_k1, O_k2, O_k3, O_k4, O_k5⟩ := id hG
  have W : ∀ (i : Nat) {d : Jvm.Cond}, tables_1[i]? = some d → d.before a0 Z = true := fun i d h => hw d (List.mem_of_getElem? h)
  refine MetFree.of_bodySF (plainFor_of_name pn_com_example_clauses_to_controls_clausestocontrols_service_TailoringFindingAboutPinLaw) hisR ?_
  intro p e s m args below meth c s₁ Bd hml0 hP hK
  obtain ⟨rfl, hZ, hh⟩ := hP
  have hx := Bd.exec
  have hby := Bd.bytes
  have hml : c.maxLocals = 1 := hml0
  have hown : s.vm.findClass "com/example/clauses_to_controls/clausestocontrols/service/TailoringFindingAboutPinLaw" = some m.cls := findClass_of_methodNamed Bd.named
  have hnm := (name_of_methodNamed Bd.named Bd.method).1
  have X0 : Stand p l e ({ frames := 0, cells := 0, slots := 0, locals := 0 } : Room) s m #[(.int pz)] below meth c s₁ [] 0 0 := Stand.of_body Bd
  have e0 : s₁.heap = h0 := by rw [← hh, Bd.state]; rfl
  have N0 := Fr.nil n0
  have pre0 : ∀ t, Steps p.tables e below (s₁.setTop (mkF m 0 #[.val (.int pz)] [])) t → Steps p.tables e below (s₁.setTop (entryFrame m #[(.int pz)] 1)) t := fun t kk_ => castTop (ef_method_2_code_I m pz) kk_
  obtain ⟨T5, X5, e5, st5⟩ := getS2 X0 hx hZ hown (host := "") (Or.inl (W 128 rfl)) Via.refl e0 (O_k4.ext X00.2) (g := (mkF m 40 #[.val (.int pz)] [])) rfl (hb hby dx_method_2_code_40)
  obtain ⟨fs, hr, hrun, hended, hW, hsame⟩ := X5.leave (v := some (.ref k4)) (fun h => by rw [Bd.returns] at h; cases h)
  refine ⟨_, _, pre0 _ ?_, hrun, hended, _, _, rfl, ?_, ⟨_, rfl⟩, hW, hsame.mono (Nat.le_of_ble_eq_true rfl) (Nat.le_of_ble_eq_true rfl)⟩
  · show Steps p.tables e below (s₁.setTop (mkF m 0 #[.val (.int pz)] [])) _
    refine XS.iloadN X0.here hx rfl (hb hby dx_method_2_code_0) rfl ?_
    show Steps p.tables e below (s₁.setTop (mkF m 1 #[.val (.int pz)] [(.int pz)])) _
    refine XS.ifYes X0.here hx rfl (pc0 := 1) (pc' := 8) rfl (hb hby dx_method_2_code_1) rfl ((if0 _ _).trans (feq (hc1 : ¬ (pz = (0 : Int32)))).2) (by decide) (by decide) ?_
    show Steps p.tables e below (s₁.setTop (mkF m 8 #[.val (.int pz)] [])) _
    refine XS.iloadN X0.here hx rfl (hb hby dx_method_2_code_8) rfl ?_
    show Steps p.tables e below (s₁.setTop (mkF m 9 #[.val (.int pz)] [(.int pz)])) _
    refine XS.iconst X0.here hx rfl (hb hby dx_method_2_code_9) ?_
    show Steps p.tables e below (s₁.setTop (mkF m 10 #[.val (.int pz)] [(.int (1 : Int32)), (.int pz)])) _
    refine XS.icmpYes X0.here hx rfl (pc0 := 10) (pc' := 17) rfl (hb hby dx_method_2_code_10) rfl (feq (hc10 : ¬ (pz = (1 : Int32)))).2 (by decide) (by decide) ?_
    show Steps p.tables e below (s₁.setTop (mkF m 17 #[.val (.int pz)] [])) _
    refine XS.iloadN X0.here hx rfl (hb hby dx_method_2_code_17) rfl ?_
    show Steps p.tables e below (s₁.setTop (mkF m 18 #[.val (.int pz)] [(.int pz)])) _
    refine XS.iconst X0.here hx rfl (hb hby dx_method_2_code_18) ?_
    show Steps p.tables e below (s₁.setTop (mkF m 19 #[.val (.int pz)] [(.int (2 : Int32)), (.int pz)])) _
    refine XS.icmpYes X0.here hx rfl (pc0 := 19) (pc' := 26) rfl (hb hby dx_method_2_code_19) rfl (feq (hc19 : ¬ (pz = (2 : Int32)))).2 (by decide) (by decide) ?_
    show Steps p.tables e below (s₁.setTop (mkF m 26 #[.val (.int pz)] [])) _
    refine XS.iloadN X0.here hx rfl (hb hby dx_method_2_code_26) rfl ?_
    show Steps p.tables e below (s₁.setTop (mkF m 27 #[.val (.int pz)] [(.int pz)])) _
    refine XS.iconst X0.here hx rfl (hb hby dx_method_2_code_27) ?_
    show Steps p.tables e below (s₁.setTop (mkF m 28 #[.val (.int pz)] [(.int (3 : Int32)), (.int pz)])) _
    refine XS.icmpYes X0.here hx rfl (pc0 := 28) (pc' := 35) rfl (hb hby dx_method_2_code_28) rfl (feq (hc28 : ¬ (pz = (3 : Int32)))).2 (by decide) (by decide) ?_
    show Steps p.tables e below (s₁.setTop (mkF m 35 #[.val (.int pz)] [])) _
    refine XS.iloadN X0.here hx rfl (hb hby dx_method_2_code_35) rfl ?_
    show Steps p.tables e below (s₁.setTop (mkF m 36 #[.val (.int pz)] [(.int pz)])) _
    refine XS.iconst X0.here hx rfl (hb hby dx_method_2_code_36) ?_
    show Steps p.tables e below (s₁.setTop (mkF m 37 #[.val (.int pz)] [(.int (4 : Int32)), (.int pz)])) _
    refine XS.icmpNo X0.here hx rfl (hb hby dx_method_2_code_37) rfl (teq (hc37 : pz = (4 : Int32))).2 ?_
    show Steps p.tables e below (s₁.setTop (mkF m 40 #[.val (.int pz)] [])) _
    refine st5 _ ?_
    show Steps p.tables e below (T5.setTop (mkF m 43 #[.val (.int pz)] [(.ref k4)])) _
    exact retOut X5 hx Bd.returns rfl (Or.inr (Or.inr (Or.inr (Or.inr ⟨rfl, rfl, rfl⟩)))) (hb hby dx_method_2_code_43) hr
  · show Qkof Z G1 em k0 k1 k2 k3 k4 k5 pz h0 n0 _ T5.heap _
    rw [e5]
    exact ⟨k4, rfl, N0, rfl⟩
set_option maxRecDepth 65536 in
set_option maxHeartbeats 40000000 in
theorem rmkof_5 (l : Launch) (Z : State) (a0 : Array Value) (G1 : Int32) (em : Addr) (k0 : Addr) (k1 : Addr) (k2 : Addr) (k3 : Addr) (k4 : Addr) (k5 : Addr) (hG : Glob Z a0 G1 em k0 k1 k2 k3 k4 k5) (ws : List Jvm.Cond) (pz : Int32) (h0 : Heap) (n0 : Nat) (Z0 : n0 ≤ h0.size) (X00 : Old Z n0 h0) (hc1 : ¬ (pz = (0 : Int32))) (hc10 : ¬ (pz = (1 : Int32))) (hc19 : ¬ (pz = (2 : Int32))) (hc28 : ¬ (pz = (3 : Int32))) (hc37 : ¬ (pz = (4 : Int32))) :
    MetFree l y0 (head1 (Jvm.Cond.code y0 method_2_code 1 (some (.object "com/example/clauses_to_controls/clausestocontrols/service/TailoringFinding$Kind")) :: ws) ({ frames := 0, cells := 0, slots := 0, locals := 0 } : Room)) (fun a U => a = #[(.int pz)] ∧ Z.Warmed39 U.vm ∧ U.heap = h0) (fun _ _ _ _ _ => True) (fun _ U o U' => ∃ v L, o = .returned v ∧ Qkof Z G1 em k0 k1 k2 k3 k4 k5 pz h0 n0 v U'.heap L ∧ FrameEnd U o U' L ({ frames := 0, cells := 0, slots := 0, locals := 0 } : Room).cells ({ frames := 0, cells := 0, slots := 0, locals := 0 } : Room).slots) := by
  obtain ⟨hw, O_cs, P_cs, O_em, O_eem, O_vem, O_k0, O_k1, O_k2, O_k3, O_k4, O_k5⟩ := id hG
  have W : ∀ (i : Nat) {d : Jvm.Cond}, tables_1[i]? = some d → d.before a0 Z = true := fun i d h => hw d (List.mem_of_getElem? h)
  refine MetFree.of_bodySF (plainFor_of_name pn_com_example_clauses_to_controls_clausestocontrols_service_TailoringFindingAboutPinLaw) hisR ?_
  intro p e s m args below meth c s₁ Bd hml0 hP hK
  obtain ⟨rfl, hZ, hh⟩ := hP
  have hx := Bd.exec
  have hby := Bd.bytes
  have hml : c.maxLocals = 1 := hml0
  have hown : s.vm.findClass "com/example/clauses_to_controls/clausestocontrols/service/TailoringFindingAboutPinLaw" = some m.cls := findClass_of_methodNamed Bd.named
  have hnm := (name_of_methodNamed Bd.named Bd.method).1
  have X0 : Stand p l e ({ frames := 0, cells := 0, slots := 0, locals := 0 } : Room) s m #[(.int pz)] below meth c s₁ [] 0 0 := Stand.of_body Bd
  have e0 : s₁.heap = h0 := by rw [← hh, Bd.state]; rfl
  have N0 := Fr.nil n0
  have pre0 : ∀ t, Steps p.tables e below (s₁.setTop (mkF m 0 #[.val (.int pz)] [])) t → Steps p.tables e below (s₁.setTop (entryFrame m #[(.int pz)] 1)) t := fun t kk_ => castTop (ef_method_2_code_I m pz) kk_
  obtain ⟨T6, X6, e6, st6⟩ := getS2 X0 hx hZ hown (host := "") (Or.inl (W 132 rfl)) Via.refl e0 (O_k5.ext X00.2) (g := (mkF m 44 #[.val (.int pz)] [])) rfl (hb hby dx_method_2_code_44)
  obtain ⟨fs, hr, hrun, hended, hW, hsame⟩ := X6.leave (v := some (.ref k5)) (fun h => by rw [Bd.returns] at h; cases h)
  refine ⟨_, _, pre0 _ ?_, hrun, hended, _, _, rfl, ?_, ⟨_, rfl⟩, hW, hsame.mono (Nat.le_of_ble_eq_true rfl) (Nat.le_of_ble_eq_true rfl)⟩
  · show Steps p.tables e below (s₁.setTop (mkF m 0 #[.val (.int pz)] [])) _
    refine XS.iloadN X0.here hx rfl (hb hby dx_method_2_code_0) rfl ?_
    show Steps p.tables e below (s₁.setTop (mkF m 1 #[.val (.int pz)] [(.int pz)])) _
    refine XS.ifYes X0.here hx rfl (pc0 := 1) (pc' := 8) rfl (hb hby dx_method_2_code_1) rfl ((if0 _ _).trans (feq (hc1 : ¬ (pz = (0 : Int32)))).2) (by decide) (by decide) ?_
    show Steps p.tables e below (s₁.setTop (mkF m 8 #[.val (.int pz)] [])) _
    refine XS.iloadN X0.here hx rfl (hb hby dx_method_2_code_8) rfl ?_
    show Steps p.tables e below (s₁.setTop (mkF m 9 #[.val (.int pz)] [(.int pz)])) _
    refine XS.iconst X0.here hx rfl (hb hby dx_method_2_code_9) ?_
    show Steps p.tables e below (s₁.setTop (mkF m 10 #[.val (.int pz)] [(.int (1 : Int32)), (.int pz)])) _
    refine XS.icmpYes X0.here hx rfl (pc0 := 10) (pc' := 17) rfl (hb hby dx_method_2_code_10) rfl (feq (hc10 : ¬ (pz = (1 : Int32)))).2 (by decide) (by decide) ?_
    show Steps p.tables e below (s₁.setTop (mkF m 17 #[.val (.int pz)] [])) _
    refine XS.iloadN X0.here hx rfl (hb hby dx_method_2_code_17) rfl ?_
    show Steps p.tables e below (s₁.setTop (mkF m 18 #[.val (.int pz)] [(.int pz)])) _
    refine XS.iconst X0.here hx rfl (hb hby dx_method_2_code_18) ?_
    show Steps p.tables e below (s₁.setTop (mkF m 19 #[.val (.int pz)] [(.int (2 : Int32)), (.int pz)])) _
    refine XS.icmpYes X0.here hx rfl (pc0 := 19) (pc' := 26) rfl (hb hby dx_method_2_code_19) rfl (feq (hc19 : ¬ (pz = (2 : Int32)))).2 (by decide) (by decide) ?_
    show Steps p.tables e below (s₁.setTop (mkF m 26 #[.val (.int pz)] [])) _
    refine XS.iloadN X0.here hx rfl (hb hby dx_method_2_code_26) rfl ?_
    show Steps p.tables e below (s₁.setTop (mkF m 27 #[.val (.int pz)] [(.int pz)])) _
    refine XS.iconst X0.here hx rfl (hb hby dx_method_2_code_27) ?_
    show Steps p.tables e below (s₁.setTop (mkF m 28 #[.val (.int pz)] [(.int (3 : Int32)), (.int pz)])) _
    refine XS.icmpYes X0.here hx rfl (pc0 := 28) (pc' := 35) rfl (hb hby dx_method_2_code_28) rfl (feq (hc28 : ¬ (pz = (3 : Int32)))).2 (by decide) (by decide) ?_
    show Steps p.tables e below (s₁.setTop (mkF m 35 #[.val (.int pz)] [])) _
    refine XS.iloadN X0.here hx rfl (hb hby dx_method_2_code_35) rfl ?_
    show Steps p.tables e below (s₁.setTop (mkF m 36 #[.val (.int pz)] [(.int pz)])) _
    refine XS.iconst X0.here hx rfl (hb hby dx_method_2_code_36) ?_
    show Steps p.tables e below (s₁.setTop (mkF m 37 #[.val (.int pz)] [(.int (4 : Int32)), (.int pz)])) _
    refine XS.icmpYes X0.here hx rfl (pc0 := 37) (pc' := 44) rfl (hb hby dx_method_2_code_37) rfl (feq (hc37 : ¬ (pz = (4 : Int32)))).2 (by decide) (by decide) ?_
    show Steps p.tables e below (s₁.setTop (mkF m 44 #[.val (.int pz)] [])) _
    refine st6 _ ?_
    show Steps p.tables e below (T6.setTop (mkF m 47 #[.val (.int pz)] [(.ref k5)])) _
    exact retOut X6 hx Bd.returns rfl (Or.inr (Or.inr (Or.inr (Or.inr ⟨rfl, rfl, rfl⟩)))) (hb hby dx_method_2_code_47) hr
  · show Qkof Z G1 em k0 k1 k2 k3 k4 k5 pz h0 n0 _ T6.heap _
    rw [e6]
    exact ⟨k5, rfl, N0, rfl⟩
set_option maxRecDepth 65536 in
theorem rmkof (l : Launch) (Z : State) (a0 : Array Value) (G1 : Int32) (em : Addr) (k0 : Addr) (k1 : Addr) (k2 : Addr) (k3 : Addr) (k4 : Addr) (k5 : Addr) (hG : Glob Z a0 G1 em k0 k1 k2 k3 k4 k5) (ws : List Jvm.Cond) (pz : Int32) (h0 : Heap) (n0 : Nat) (Z0 : n0 ≤ h0.size) (X00 : Old Z n0 h0) :
    MetFree l y0 (head1 (Jvm.Cond.code y0 method_2_code 1 (some (.object "com/example/clauses_to_controls/clausestocontrols/service/TailoringFinding$Kind")) :: ws) ({ frames := 0, cells := 0, slots := 0, locals := 0 } : Room)) (fun a U => a = #[(.int pz)] ∧ Z.Warmed39 U.vm ∧ U.heap = h0) (fun _ _ _ _ _ => True) (fun _ U o U' => ∃ v L, o = .returned v ∧ Qkof Z G1 em k0 k1 k2 k3 k4 k5 pz h0 n0 v U'.heap L ∧ FrameEnd U o U' L ({ frames := 0, cells := 0, slots := 0, locals := 0 } : Room).cells ({ frames := 0, cells := 0, slots := 0, locals := 0 } : Room).slots) := by
  by_cases hq0 : pz = (0 : Int32)
  · exact rmkof_0 l Z a0 G1 em k0 k1 k2 k3 k4 k5 hG ws pz h0 n0 Z0 X00 hq0
  by_cases hq1 : pz = (1 : Int32)
  · exact rmkof_1 l Z a0 G1 em k0 k1 k2 k3 k4 k5 hG ws pz h0 n0 Z0 X00 hq0 hq1
  by_cases hq2 : pz = (2 : Int32)
  · exact rmkof_2 l Z a0 G1 em k0 k1 k2 k3 k4 k5 hG ws pz h0 n0 Z0 X00 hq0 hq1 hq2
  by_cases hq3 : pz = (3 : Int32)
  · exact rmkof_3 l Z a0 G1 em k0 k1 k2 k3 k4 k5 hG ws pz h0 n0 Z0 X00 hq0 hq1 hq2 hq3
  by_cases hq4 : pz = (4 : Int32)
  · exact rmkof_4 l Z a0 G1 em k0 k1 k2 k3 k4 k5 hG ws pz h0 n0 Z0 X00 hq0 hq1 hq2 hq3 hq4
  exact rmkof_5 l Z a0 G1 em k0 k1 k2 k3 k4 k5 hG ws pz h0 n0 Z0 X00 hq0 hq1 hq2 hq3 hq4
theorem dx_method_3_code_0 : decode method_3_code 0 = .ok (.iconst 2, 1) := by decide +kernel
theorem dx_method_3_code_1 : decode method_3_code 1 = .ok (.newarray .char, 2) := by decide +kernel
theorem dx_method_3_code_3 : decode method_3_code 3 = .ok (.dup, 1) := by decide +kernel
theorem dx_method_3_code_4 : decode method_3_code 4 = .ok (.iconst 0, 1) := by decide +kernel
theorem dx_method_3_code_5 : decode method_3_code 5 = .ok (.iload_n 0, 1) := by decide +kernel
theorem dx_method_3_code_6 : decode method_3_code 6 = .ok (.sipush 255, 3) := by decide +kernel
theorem dx_method_3_code_9 : decode method_3_code 9 = .ok (.iand, 1) := by decide +kernel
theorem dx_method_3_code_10 : decode method_3_code 10 = .ok (.i2c, 1) := by decide +kernel
theorem dx_method_3_code_11 : decode method_3_code 11 = .ok (.castore, 1) := by decide +kernel
theorem dx_method_3_code_12 : decode method_3_code 12 = .ok (.dup, 1) := by decide +kernel
theorem dx_method_3_code_13 : decode method_3_code 13 = .ok (.iconst 1, 1) := by decide +kernel
theorem dx_method_3_code_14 : decode method_3_code 14 = .ok (.iload_n 0, 1) := by decide +kernel
theorem dx_method_3_code_15 : decode method_3_code 15 = .ok (.bipush 8, 2) := by decide +kernel
theorem dx_method_3_code_17 : decode method_3_code 17 = .ok (.iushr, 1) := by decide +kernel
theorem dx_method_3_code_18 : decode method_3_code 18 = .ok (.sipush 255, 3) := by decide +kernel
theorem dx_method_3_code_21 : decode method_3_code 21 = .ok (.iand, 1) := by decide +kernel
theorem dx_method_3_code_22 : decode method_3_code 22 = .ok (.i2c, 1) := by decide +kernel
theorem dx_method_3_code_23 : decode method_3_code 23 = .ok (.castore, 1) := by decide +kernel
theorem dx_method_3_code_24 : decode method_3_code 24 = .ok (.astore_n 1, 1) := by decide +kernel
theorem dx_method_3_code_25 : decode method_3_code 25 = .ok (.new 28, 3) := by decide +kernel
theorem dx_method_3_code_28 : decode method_3_code 28 = .ok (.dup, 1) := by decide +kernel
theorem dx_method_3_code_29 : decode method_3_code 29 = .ok (.aload_n 1, 1) := by decide +kernel
theorem dx_method_3_code_30 : decode method_3_code 30 = .ok (.invokespecial 30, 3) := by decide +kernel
theorem pd___C_V : parseMethodDescriptor "([C)V" = some ⟨[(.array .char)], none⟩ := by decide +kernel
abbrev y1 : MethodName := ⟨"java/lang/String", "<init>", "([C)V"⟩
theorem dx_method_3_code_33 : decode method_3_code 33 = .ok (.areturn, 1) := by decide +kernel
def Qdraw (Z : State) (G1 : Int32) (em : Addr) (k0 : Addr) (k1 : Addr) (k2 : Addr) (k3 : Addr) (k4 : Addr) (k5 : Addr) (pz : Int32) (h0 : Heap) (n0 : Nat) (v : Option Value) (h : Heap) (L : List Loc) : Prop := ∃ b : Addr, v = some (.ref b) ∧ Fr n0 L ∧ Keep h0 h [] ∧ h0.size ≤ b ∧ Exa Z h b "java/lang/String"
theorem ef_method_3_code_I (m : MethodId) (x0 : Int32) : entryFrame m #[(.int x0)] 2 = mkF m 0 #[.val (.int x0), .unset] [] := by first | (simp [entryFrame, mkF, argsToLocals, Value.category]; done) | rfl
abbrev y2 : MethodName := ⟨"com/example/clauses_to_controls/clausestocontrols/service/TailoringFindingAboutPinLaw", "draw", "(I)Ljava/lang/String;"⟩
set_option maxRecDepth 65536 in
set_option maxHeartbeats 40000000 in
theorem rmdraw (l : Launch) (Z : State) (a0 : Array Value) (G1 : Int32) (em : Addr) (k0 : Addr) (k1 : Addr) (k2 : Addr) (k3 : Addr) (k4 : Addr) (k5 : Addr) (hG : Glob Z a0 G1 em k0 k1 k2 k3 k4 k5) (ws : List Jvm.Cond) (pz : Int32) (h0 : Heap) (n0 : Nat) (Z0 : n0 ≤ h0.size) (X00 : Old Z n0 h0) :
    MetFree l y2 (head1 (Jvm.Cond.code y2 method_3_code 2 (some (.object "java/lang/String")) :: ws) ({ frames := 4, cells := 3, slots := 8, locals := 66 } : Room)) (fun a U => a = #[(.int pz)] ∧ Z.Warmed39 U.vm ∧ U.heap = h0) (fun _ _ _ _ _ => True) (fun _ U o U' => ∃ v L, o = .returned v ∧ Qdraw Z G1 em k0 k1 k2 k3 k4 k5 pz h0 n0 v U'.heap L ∧ FrameEnd U o U' L ({ frames := 4, cells := 3, slots := 8, locals := 66 } : Room).cells ({ frames := 4, cells := 3, slots := 8, locals := 66 } : Room).slots) := by
  obtain ⟨hw, O_cs, P_cs, O_em, O_eem, O_vem, O_k0, O_k1, O_k2, O_k3, O_k4, O_k5⟩ := id hG
  have W : ∀ (i : Nat) {d : Jvm.Cond}, tables_1[i]? = some d → d.before a0 Z = true := fun i d h => hw d (List.mem_of_getElem? h)
  refine MetFree.of_bodySF (plainFor_of_name pn_com_example_clauses_to_controls_clausestocontrols_service_TailoringFindingAboutPinLaw) hisR ?_
  intro p e s m args below meth c s₁ Bd hml0 hP hK
  obtain ⟨rfl, hZ, hh⟩ := hP
  have hx := Bd.exec
  have hby := Bd.bytes
  have hml : c.maxLocals = 2 := hml0
  have hown : s.vm.findClass "com/example/clauses_to_controls/clausestocontrols/service/TailoringFindingAboutPinLaw" = some m.cls := findClass_of_methodNamed Bd.named
  have hnm := (name_of_methodNamed Bd.named Bd.method).1
  have X0 : Stand p l e ({ frames := 4, cells := 3, slots := 8, locals := 66 } : Room) s m #[(.int pz)] below meth c s₁ [] 0 0 := Stand.of_body Bd
  have e0 : s₁.heap = h0 := by rw [← hh, Bd.state]; rfl
  have N0 := Fr.nil n0
  have pre0 : ∀ t, Steps p.tables e below (s₁.setTop (mkF m 0 #[.val (.int pz), .unset] [])) t → Steps p.tables e below (s₁.setTop (entryFrame m #[(.int pz)] 2)) t := fun t kk_ => castTop (ef_method_3_code_I m pz) kk_
  obtain ⟨T7, h7, k7, X7, e7, E7, A7, st7⟩ := newP X0 hx hZ (W 11 rfl) e0 (g := (mkF m 1 #[.val (.int pz), .unset] [(.int (2 : Int32))])) rfl (hb hby dx_method_3_code_1) rfl (by decide) (cap := 2) (by decide) (by decide) (by decide) (by decide)
  obtain ⟨b7, g7⟩ : ∃ z, z = h0.size := ⟨_, rfl⟩
  rw [← g7] at A7 st7
  have Z8 : n0 ≤ h7.size := Nat.le_trans Z0 E7.1
  have K0_8 : Keep h0 h7 [] := (Keep.refl h0 []).ext E7
  have O8 : Old Z n0 h7 := X00.ext E7
  have lo_b7 : h0.size ≤ b7 := Nat.le_of_eq g7.symm
  have g_b7 : n0 ≤ b7 := Nat.le_trans Z0 lo_b7
  have l0_b7 : h0.size ≤ b7 := Nat.le_trans (Keep.refl h0 []).1 lo_b7
  have V_b7 : Arv Z h7 b7 k7 .char (2 : Int32) [(.int (0 : Int32)), (.int (0 : Int32))] (.int (0 : Int32)) := (Arv.new A7 (by decide)).pad (pad_rep [] (.int (0 : Int32)) 2)
  obtain ⟨clq9, Arq9, qaq9, Sq9, Nq9, Hq9, Gq9⟩ := id V_b7
  have hinq9 : ¬ ((0 : Int32) < 0 ∨ clq9.slots.size ≤ ((0 : Int32)).toNatClampNeg) := inb_of Sq9 ⟨by decide, by decide⟩
  obtain ⟨T10, h10, X10, e10, W10, st10⟩ := stC X7 hx hZ e7 Arq9 (j := (0 : Int32)) hinq9 (g := (mkF m 11 #[.val (.int pz), .unset] [(.int ((pz &&& (255 : Int32)).toUInt32.toUInt16.toUInt32.toInt32)), (.int (0 : Int32)), (.ref b7), (.ref b7)])) rfl rfl (hb hby dx_method_3_code_11)
  have V10 : Arv Z h10 b7 k7 .char (2 : Int32) [(.int (nar .char ((pz &&& (255 : Int32)).toUInt32.toUInt16.toUInt32.toInt32))), (.int (0 : Int32))] (.int (0 : Int32)) := Arv.set Arq9 qaq9 Sq9 Nq9 Hq9 Gq9 (fits_nar_char _) W10 0 rfl (Nat.le_of_ble_eq_true rfl)
  have Z11 : n0 ≤ h10.size := Nat.le_trans Z8 (Keep.of_wr W10).1
  have K0_11 : Keep h0 h10 [] := K0_8.wr W10 (Or.inr l0_b7)
  have O11 : Old Z n0 h10 := O8.wr W10 g_b7
  have N10 := Fr.snoc X10 N0 g_b7
  obtain ⟨clq12, Arq12, qaq12, Sq12, Nq12, Hq12, Gq12⟩ := id V10
  have hinq12 : ¬ ((1 : Int32) < 0 ∨ clq12.slots.size ≤ ((1 : Int32)).toNatClampNeg) := inb_of Sq12 ⟨by decide, by decide⟩
  obtain ⟨T13, h13, X13, e13, W13, st13⟩ := stC X10 hx hZ e10 Arq12 (j := (1 : Int32)) hinq12 (g := (mkF m 23 #[.val (.int pz), .unset] [(.int ((((pz.toUInt32 >>> ((8 : Int32) &&& 31).toUInt32).toInt32) &&& (255 : Int32)).toUInt32.toUInt16.toUInt32.toInt32)), (.int (1 : Int32)), (.ref b7), (.ref b7)])) rfl rfl (hb hby dx_method_3_code_23)
  have V13 : Arv Z h13 b7 k7 .char (2 : Int32) [(.int (nar .char ((pz &&& (255 : Int32)).toUInt32.toUInt16.toUInt32.toInt32))), (.int (nar .char ((((pz.toUInt32 >>> ((8 : Int32) &&& 31).toUInt32).toInt32) &&& (255 : Int32)).toUInt32.toUInt16.toUInt32.toInt32)))] (.int (0 : Int32)) := Arv.set Arq12 qaq12 Sq12 Nq12 Hq12 Gq12 (fits_nar_char _) W13 1 rfl (Nat.le_of_ble_eq_true rfl)
  have Z14 : n0 ≤ h13.size := Nat.le_trans Z11 (Keep.of_wr W13).1
  have K0_14 : Keep h0 h13 [] := K0_11.wr W13 (Or.inr l0_b7)
  have O14 : Old Z n0 h13 := O11.wr W13 g_b7
  have N13 := Fr.snoc X13 N10 g_b7
  obtain ⟨T15, h15, X15, e15, E15, A15, D15, -, st15⟩ := newO X13 hx hZ hown (W 12 rfl) (W 13 rfl) (W 14 rfl) e13 (g := (mkF m 25 #[.val (.int pz), .val (.ref b7)] [])) rfl (hb hby dx_method_3_code_25) (by decide) (by decide)
  obtain ⟨b15, g15⟩ : ∃ z, z = h13.size := ⟨_, rfl⟩
  rw [← g15] at A15 D15 st15
  have Z16 : n0 ≤ h15.size := Nat.le_trans Z14 E15.1
  have K0_16 : Keep h0 h15 [] := K0_14.ext E15
  have O16 : Old Z n0 h15 := O14.ext E15
  have lo_b15 : h13.size ≤ b15 := Nat.le_of_eq g15.symm
  have g_b15 : n0 ≤ b15 := Nat.le_trans Z14 lo_b15
  have l0_b15 : h0.size ≤ b15 := Nat.le_trans K0_14.1 lo_b15
  have F_coder_b15 : Fld Z h15 b15 "java/lang/String" "coder" "B" (.int (0 : Int32)) := D15 (Or.inr (W 38 rfl)) (ty := .byte) (by decide)
  have F_value_b15 : Fld Z h15 b15 "java/lang/String" "value" "[B" .null := D15 (Or.inr (W 40 rfl)) (ty := (.array .byte)) (by decide)
  have hws17 := own_hws hw
  have hp17 : ∀ c ∈ ([(nar .char ((pz &&& (255 : Int32)).toUInt32.toUInt16.toUInt32.toInt32)), (nar .char ((((pz.toUInt32 >>> ((8 : Int32) &&& 31).toUInt32).toInt32) &&& (255 : Int32)).toUInt32.toUInt16.toUInt32.toInt32))] : List Int32), ¬ c < 0 ∧ ¬ (255 : Int32) < c := by
    intro c hc
    simp only [List.mem_cons, List.not_mem_nil, or_false] at hc
    rcases hc with rfl | rfl <;> exact own_char255 _
  have f18 := (V13.ext E15)
  -- pc 30: java/lang/String.<init>
  obtain ⟨_, _, ⟨T17, L17, k17, n17⟩, -, X17, ⟨Lc17, hQ17, l17, y17, z17⟩, st17⟩ := X15.specialBack hx (y := y1) rfl hown (mvT hZ (W 15 rfl)) (mvT hZ (W 16 rfl)) (mvT hZ (W 17 rfl)) (by decide) (StrChars.Road.backV (W := 1) hZ hws17 (kI := 4) (W 13 rfl) (cs := ([(nar .char ((pz &&& (255 : Int32)).toUInt32.toUInt16.toUInt32.toInt32)), (nar .char ((((pz.toUInt32 >>> ((8 : Int32) &&& 31).toUInt32).toInt32) &&& (255 : Int32)).toUInt32.toUInt16.toUInt32.toInt32))] : List Int32)) (bs := (([(nar .char ((pz &&& (255 : Int32)).toUInt32.toUInt16.toUInt32.toInt32)), (nar .char ((((pz.toUInt32 >>> ((8 : Int32) &&& 31).toUInt32).toInt32) &&& (255 : Int32)).toUInt32.toUInt16.toUInt32.toInt32))] : List Int32)).map (fun c => c.toInt8.toInt32)) (n := 2) g_b15 Z16 A15 F_value_b15 F_coder_b15 f18 (O_cs.ext O16.2) P_cs rfl rfl (by decide) (by decide) hp17 rfl (by decide) (by decide)) (g := (mkF m 30 #[.val (.int pz), .val (.ref b7)] [(.ref b7), (.ref b15), (.ref b15)])) rfl (by rw [hml]; rfl) (Steps.refl _) (a := b15) (argsL := [(.ref b7)]) (rest := [(.ref b15)]) (lenOf pd___C_V rfl) rfl (by show 2 * 0 + _ ≤ _; exact Nat.le_of_eq rfl) (hb hby dx_method_3_code_30) (fun _ _ => ⟨rfl, e15, (by decide : 2 + 1 ≤ _), (by decide : 6 + 2 ≤ _)⟩)
  dsimp only [Pt.U, Pt.locs, Pt.cells, Pt.slots] at X17 l17 y17 z17 st17 hQ17
  subst l17 y17 z17
  obtain ⟨rfl, N17q, K17, E17x, C17x, t17, kb17, gt17, lt17, nt17, V17x, B17x⟩ := hQ17
  have N17 := Fr.app N13 N17q
  have Z19 : n0 ≤ T17.heap.size := Nat.le_trans Z16 K17.1
  have K0_19 : Keep h0 T17.heap [] := K0_16.trans K17 (allS (Or.inr l0_b15) all0)
  have O19 : Old Z n0 T17.heap := O16.keep K17 (allS g_b15 all0)
  have lo_t17 : h15.size ≤ t17 := lt17
  have g_t17 : n0 ≤ t17 := Nat.le_trans Z16 lo_t17
  have l0_t17 : h0.size ≤ t17 := Nat.le_trans K0_16.1 lo_t17
  obtain ⟨fs, hr, hrun, hended, hW, hsame⟩ := X17.leave (v := some (.ref b15)) (fun h => by rw [Bd.returns] at h; cases h)
  refine ⟨_, _, pre0 _ ?_, hrun, hended, _, _, rfl, ?_, ⟨_, rfl⟩, hW, hsame.mono (Nat.le_of_ble_eq_true rfl) (Nat.le_of_ble_eq_true rfl)⟩
  · show Steps p.tables e below (s₁.setTop (mkF m 0 #[.val (.int pz), .unset] [])) _
    refine XS.iconst X0.here hx rfl (hb hby dx_method_3_code_0) ?_
    show Steps p.tables e below (s₁.setTop (mkF m 1 #[.val (.int pz), .unset] [(.int (2 : Int32))])) _
    refine st7 _ ?_
    show Steps p.tables e below (T7.setTop (mkF m 3 #[.val (.int pz), .unset] [(.ref b7)])) _
    refine XS.dup X7.here hx rfl (hb hby dx_method_3_code_3) rfl rfl ?_
    show Steps p.tables e below (T7.setTop (mkF m 4 #[.val (.int pz), .unset] [(.ref b7), (.ref b7)])) _
    refine XS.iconst X7.here hx rfl (hb hby dx_method_3_code_4) ?_
    show Steps p.tables e below (T7.setTop (mkF m 5 #[.val (.int pz), .unset] [(.int (0 : Int32)), (.ref b7), (.ref b7)])) _
    refine XS.iloadN X7.here hx rfl (hb hby dx_method_3_code_5) rfl ?_
    show Steps p.tables e below (T7.setTop (mkF m 6 #[.val (.int pz), .unset] [(.int pz), (.int (0 : Int32)), (.ref b7), (.ref b7)])) _
    refine XS.sipush X7.here hx rfl (hb hby dx_method_3_code_6) ?_
    show Steps p.tables e below (T7.setTop (mkF m 9 #[.val (.int pz), .unset] [(.int (255 : Int32)), (.int pz), (.int (0 : Int32)), (.ref b7), (.ref b7)])) _
    refine XS.iand X7.here hx rfl (hb hby dx_method_3_code_9) rfl ?_
    show Steps p.tables e below (T7.setTop (mkF m 10 #[.val (.int pz), .unset] [(.int (pz &&& (255 : Int32))), (.int (0 : Int32)), (.ref b7), (.ref b7)])) _
    refine XS.i2c X7.here hx rfl (hb hby dx_method_3_code_10) rfl ?_
    show Steps p.tables e below (T7.setTop (mkF m 11 #[.val (.int pz), .unset] [(.int ((pz &&& (255 : Int32)).toUInt32.toUInt16.toUInt32.toInt32)), (.int (0 : Int32)), (.ref b7), (.ref b7)])) _
    refine st10 _ ?_
    show Steps p.tables e below (T10.setTop (mkF m 12 #[.val (.int pz), .unset] [(.ref b7)])) _
    refine XS.dup X10.here hx rfl (hb hby dx_method_3_code_12) rfl rfl ?_
    show Steps p.tables e below (T10.setTop (mkF m 13 #[.val (.int pz), .unset] [(.ref b7), (.ref b7)])) _
    refine XS.iconst X10.here hx rfl (hb hby dx_method_3_code_13) ?_
    show Steps p.tables e below (T10.setTop (mkF m 14 #[.val (.int pz), .unset] [(.int (1 : Int32)), (.ref b7), (.ref b7)])) _
    refine XS.iloadN X10.here hx rfl (hb hby dx_method_3_code_14) rfl ?_
    show Steps p.tables e below (T10.setTop (mkF m 15 #[.val (.int pz), .unset] [(.int pz), (.int (1 : Int32)), (.ref b7), (.ref b7)])) _
    refine XS.bipush X10.here hx rfl (hb hby dx_method_3_code_15) ?_
    show Steps p.tables e below (T10.setTop (mkF m 17 #[.val (.int pz), .unset] [(.int (8 : Int32)), (.int pz), (.int (1 : Int32)), (.ref b7), (.ref b7)])) _
    refine XS.iushr X10.here hx rfl (hb hby dx_method_3_code_17) rfl ?_
    show Steps p.tables e below (T10.setTop (mkF m 18 #[.val (.int pz), .unset] [(.int ((pz.toUInt32 >>> ((8 : Int32) &&& 31).toUInt32).toInt32)), (.int (1 : Int32)), (.ref b7), (.ref b7)])) _
    refine XS.sipush X10.here hx rfl (hb hby dx_method_3_code_18) ?_
    show Steps p.tables e below (T10.setTop (mkF m 21 #[.val (.int pz), .unset] [(.int (255 : Int32)), (.int ((pz.toUInt32 >>> ((8 : Int32) &&& 31).toUInt32).toInt32)), (.int (1 : Int32)), (.ref b7), (.ref b7)])) _
    refine XS.iand X10.here hx rfl (hb hby dx_method_3_code_21) rfl ?_
    show Steps p.tables e below (T10.setTop (mkF m 22 #[.val (.int pz), .unset] [(.int (((pz.toUInt32 >>> ((8 : Int32) &&& 31).toUInt32).toInt32) &&& (255 : Int32))), (.int (1 : Int32)), (.ref b7), (.ref b7)])) _
    refine XS.i2c X10.here hx rfl (hb hby dx_method_3_code_22) rfl ?_
    show Steps p.tables e below (T10.setTop (mkF m 23 #[.val (.int pz), .unset] [(.int ((((pz.toUInt32 >>> ((8 : Int32) &&& 31).toUInt32).toInt32) &&& (255 : Int32)).toUInt32.toUInt16.toUInt32.toInt32)), (.int (1 : Int32)), (.ref b7), (.ref b7)])) _
    refine st13 _ ?_
    show Steps p.tables e below (T13.setTop (mkF m 24 #[.val (.int pz), .unset] [(.ref b7)])) _
    refine XS.astoreN X13.here hx rfl (hb hby dx_method_3_code_24) rfl rfl (l' := #[.val (.int pz), .val (.ref b7)]) rfl ?_
    show Steps p.tables e below (T13.setTop (mkF m 25 #[.val (.int pz), .val (.ref b7)] [])) _
    refine st15 _ ?_
    show Steps p.tables e below (T15.setTop (mkF m 28 #[.val (.int pz), .val (.ref b7)] [(.ref b15)])) _
    refine XS.dup X15.here hx rfl (hb hby dx_method_3_code_28) rfl rfl ?_
    show Steps p.tables e below (T15.setTop (mkF m 29 #[.val (.int pz), .val (.ref b7)] [(.ref b15), (.ref b15)])) _
    refine XS.aloadN X15.here hx rfl (hb hby dx_method_3_code_29) rfl rfl ?_
    show Steps p.tables e below (T15.setTop (mkF m 30 #[.val (.int pz), .val (.ref b7)] [(.ref b7), (.ref b15), (.ref b15)])) _
    refine st17.trans ?_
    show Steps p.tables e below (T17.setTop (mkF m 33 #[.val (.int pz), .val (.ref b7)] [(.ref b15)])) _
    exact retOut X17 hx Bd.returns rfl (Or.inr (Or.inr (Or.inr (Or.inr ⟨rfl, rfl, rfl⟩)))) (hb hby dx_method_3_code_33) hr
  · show Qdraw Z G1 em k0 k1 k2 k3 k4 k5 pz h0 n0 _ T17.heap _
    exact ⟨b15, rfl, N17, K0_19, l0_b15, E17x⟩
theorem dx_prog_30_method_1_code_0 : decode prog_30_method_1_code 0 = .ok (.aload_n 0, 1) := by decide +kernel
theorem dx_prog_30_method_1_code_1 : decode prog_30_method_1_code 1 = .ok (.invokespecial 1, 3) := by decide +kernel
theorem dx_prog_30_method_1_code_4 : decode prog_30_method_1_code 4 = .ok (.aload_n 0, 1) := by decide +kernel
theorem dx_prog_30_method_1_code_5 : decode prog_30_method_1_code 5 = .ok (.aload_n 1, 1) := by decide +kernel
theorem dx_prog_30_method_1_code_6 : decode prog_30_method_1_code 6 = .ok (.putfield 7, 3) := by decide +kernel
theorem dx_prog_30_method_1_code_9 : decode prog_30_method_1_code 9 = .ok (.aload_n 0, 1) := by decide +kernel
theorem dx_prog_30_method_1_code_10 : decode prog_30_method_1_code 10 = .ok (.aload_n 2, 1) := by decide +kernel
theorem dx_prog_30_method_1_code_11 : decode prog_30_method_1_code 11 = .ok (.putfield 13, 3) := by decide +kernel
theorem dx_prog_30_method_1_code_14 : decode prog_30_method_1_code 14 = .ok (.aload_n 0, 1) := by decide +kernel
theorem dx_prog_30_method_1_code_15 : decode prog_30_method_1_code 15 = .ok (.aload_n 3, 1) := by decide +kernel
theorem dx_prog_30_method_1_code_16 : decode prog_30_method_1_code 16 = .ok (.putfield 16, 3) := by decide +kernel
theorem dx_prog_30_method_1_code_19 : decode prog_30_method_1_code 19 = .ok (.return_, 1) := by decide +kernel
def Qtvi (Z : State) (G1 : Int32) (em : Addr) (k0 : Addr) (k1 : Addr) (k2 : Addr) (k3 : Addr) (k4 : Addr) (k5 : Addr) (a1 : Addr) (u0 : Value) (u1 : Value) (u2 : Value) (h0 : Heap) (n0 : Nat) (v : Option Value) (h : Heap) (L : List Loc) : Prop := v = none ∧ Fr n0 L ∧ Keep h0 h [a1] ∧ Exa Z h a1 "com/example/clauses_to_controls/clausestocontrols/model/TailoredValue" ∧ Fld Z h a1 "com/example/clauses_to_controls/clausestocontrols/model/TailoredValue" "component" "Ljava/lang/String;" u0 ∧ Fld Z h a1 "com/example/clauses_to_controls/clausestocontrols/model/TailoredValue" "parameter" "Ljava/lang/String;" u1 ∧ Fld Z h a1 "com/example/clauses_to_controls/clausestocontrols/model/TailoredValue" "value" "Ljava/lang/String;" u2
theorem ef_prog_30_method_1_code_RVVV (m : MethodId) (x0 : Addr) (x1 : Value) (x2 : Value) (x3 : Value) (r1 : x1.isRef = true) (r2 : x2.isRef = true) (r3 : x3.isRef = true) : entryFrame m #[(.ref x0), x1, x2, x3] 4 = mkF m 0 #[.val (.ref x0), .val x1, .val x2, .val x3] [] := by
  simp [entryFrame, mkF, argsToLocals, own_cr, own_ci, own_cj, own_cn, own_cat r1, own_cat r2, own_cat r3]
abbrev y3 : MethodName := ⟨"com/example/clauses_to_controls/clausestocontrols/model/TailoredValue", "<init>", "(Ljava/lang/String;Ljava/lang/String;Ljava/lang/String;)V"⟩
theorem pn_com_example_clauses_to_controls_clausestocontrols_model_TailoredValue : plainName "com/example/clauses_to_controls/clausestocontrols/model/TailoredValue" = true := by first | (simp [plainName, overriddenIn]; done) | decide +kernel
set_option maxRecDepth 65536 in
set_option maxHeartbeats 40000000 in
theorem rmtvi (l : Launch) (Z : State) (a0 : Array Value) (G1 : Int32) (em : Addr) (k0 : Addr) (k1 : Addr) (k2 : Addr) (k3 : Addr) (k4 : Addr) (k5 : Addr) (hG : Glob Z a0 G1 em k0 k1 k2 k3 k4 k5) (ws : List Jvm.Cond) (a1 : Addr) (u0 : Value) (u1 : Value) (u2 : Value) (h0 : Heap) (n0 : Nat) (Z0 : n0 ≤ h0.size) (X00 : Old Z n0 h0) (E_a1 : Exa Z h0 a1 "com/example/clauses_to_controls/clausestocontrols/model/TailoredValue") (g_a1 : n0 ≤ a1) (F_component_a1 : Fld Z h0 a1 "com/example/clauses_to_controls/clausestocontrols/model/TailoredValue" "component" "Ljava/lang/String;" .null) (F_parameter_a1 : Fld Z h0 a1 "com/example/clauses_to_controls/clausestocontrols/model/TailoredValue" "parameter" "Ljava/lang/String;" .null) (F_value_a1 : Fld Z h0 a1 "com/example/clauses_to_controls/clausestocontrols/model/TailoredValue" "value" "Ljava/lang/String;" .null) (ru0 : u0.isRef = true) (ru1 : u1.isRef = true) (ru2 : u2.isRef = true) :
    MetFree l y3 (head1 (Jvm.Cond.code y3 prog_30_method_1_code 4 none :: ws) ({ frames := 1, cells := 0, slots := 0, locals := 12 } : Room)) (fun a U => a = #[(.ref a1), u0, u1, u2] ∧ Z.Warmed39 U.vm ∧ U.heap = h0) (fun _ _ _ _ _ => True) (fun _ U o U' => ∃ v L, o = .returned v ∧ Qtvi Z G1 em k0 k1 k2 k3 k4 k5 a1 u0 u1 u2 h0 n0 v U'.heap L ∧ FrameEnd U o U' L ({ frames := 1, cells := 0, slots := 0, locals := 12 } : Room).cells ({ frames := 1, cells := 0, slots := 0, locals := 12 } : Room).slots) := by
  obtain ⟨hw, O_cs, P_cs, O_em, O_eem, O_vem, O_k0, O_k1, O_k2, O_k3, O_k4, O_k5⟩ := id hG
  have W : ∀ (i : Nat) {d : Jvm.Cond}, tables_1[i]? = some d → d.before a0 Z = true := fun i d h => hw d (List.mem_of_getElem? h)
  refine MetFree.of_bodySF (plainFor_of_name pn_com_example_clauses_to_controls_clausestocontrols_model_TailoredValue) hisR ?_
  intro p e s m args below meth c s₁ Bd hml0 hP hK
  obtain ⟨rfl, hZ, hh⟩ := hP
  have hx := Bd.exec
  have hby := Bd.bytes
  have hml : c.maxLocals = 4 := hml0
  have hown : s.vm.findClass "com/example/clauses_to_controls/clausestocontrols/model/TailoredValue" = some m.cls := findClass_of_methodNamed Bd.named
  have hnm := (name_of_methodNamed Bd.named Bd.method).1
  have X0 : Stand p l e ({ frames := 1, cells := 0, slots := 0, locals := 12 } : Room) s m #[(.ref a1), u0, u1, u2] below meth c s₁ [] 0 0 := Stand.of_body Bd
  have e0 : s₁.heap = h0 := by rw [← hh, Bd.state]; rfl
  have N0 := Fr.nil n0
  have pre0 : ∀ t, Steps p.tables e below (s₁.setTop (mkF m 0 #[.val (.ref a1), .val u0, .val u1, .val u2] [])) t → Steps p.tables e below (s₁.setTop (entryFrame m #[(.ref a1), u0, u1, u2] 4)) t := fun t kk_ => castTop (ef_prog_30_method_1_code_RVVV m a1 u0 u1 u2 ru0 ru1 ru2) kk_
  obtain ⟨T20, X20, e20, st20⟩ := initO X0 hx hZ hown (W 47 rfl) (W 23 rfl) (W 24 rfl) e0 (g := (mkF m 1 #[.val (.ref a1), .val u0, .val u1, .val u2] [(.ref a1)])) rfl (by rw [hml]; rfl) rfl (hb hby dx_prog_30_method_1_code_1) (by decide) (W := 0) (by show 2 * 0 + _ ≤ _; exact Nat.le_of_eq rfl) (by decide)
  obtain ⟨T21, h21, X21, e21, W21, st21⟩ := putF X20 hx hZ hown (host := "") (Or.inl (W 48 rfl)) Via.refl e20 F_component_a1 E_a1 (Or.inr ⟨(W 49 rfl), rfl, hnm⟩) (W 42 rfl) (ty := (.object "java/lang/String")) (by decide) (own_nar rfl ru0) (own_fits rfl ru0) (g := (mkF m 6 #[.val (.ref a1), .val u0, .val u1, .val u2] [u0, (.ref a1)])) rfl rfl (hb hby dx_prog_30_method_1_code_6)
  have Fw21 := F_component_a1.same W21
  have Z22 : n0 ≤ h21.size := Nat.le_trans Z0 (Keep.of_wr W21).1
  have K0_22 : Keep h0 h21 [a1] := (Keep.refl h0 [a1]).wr W21 (Or.inl (List.mem_of_getElem? (i := 0) rfl))
  have O22 : Old Z n0 h21 := X00.wr W21 g_a1
  have N21 := Fr.snoc X21 N0 g_a1
  have f23 := (E_a1.wr W21)
  have f24 := (F_parameter_a1.other W21 (Or.inr (slot_ne (Or.inr (W 51 rfl)) (Or.inr (W 49 rfl)) (by decide) (t := (.object "java/lang/String")) (t' := (.object "java/lang/String")) (by decide) (by decide))))
  obtain ⟨T25, h25, X25, e25, W25, st25⟩ := putF X21 hx hZ hown (host := "") (Or.inl (W 50 rfl)) Via.refl e21 f24 f23 (Or.inr ⟨(W 51 rfl), rfl, hnm⟩) (W 42 rfl) (ty := (.object "java/lang/String")) (by decide) (own_nar rfl ru1) (own_fits rfl ru1) (g := (mkF m 11 #[.val (.ref a1), .val u0, .val u1, .val u2] [u1, (.ref a1)])) rfl rfl (hb hby dx_prog_30_method_1_code_11)
  have Fw25 := f24.same W25
  have Z26 : n0 ≤ h25.size := Nat.le_trans Z22 (Keep.of_wr W25).1
  have K0_26 : Keep h0 h25 [a1] := K0_22.wr W25 (Or.inl (List.mem_of_getElem? (i := 0) rfl))
  have O26 : Old Z n0 h25 := O22.wr W25 g_a1
  have N25 := Fr.snoc X25 N21 g_a1
  have f27 := (f23.wr W25)
  have f28 := ((F_value_a1.other W21 (Or.inr (slot_ne (Or.inr (W 53 rfl)) (Or.inr (W 49 rfl)) (by decide) (t := (.object "java/lang/String")) (t' := (.object "java/lang/String")) (by decide) (by decide)))).other W25 (Or.inr (slot_ne (Or.inr (W 53 rfl)) (Or.inr (W 51 rfl)) (by decide) (t := (.object "java/lang/String")) (t' := (.object "java/lang/String")) (by decide) (by decide))))
  obtain ⟨T29, h29, X29, e29, W29, st29⟩ := putF X25 hx hZ hown (host := "") (Or.inl (W 52 rfl)) Via.refl e25 f28 f27 (Or.inr ⟨(W 53 rfl), rfl, hnm⟩) (W 42 rfl) (ty := (.object "java/lang/String")) (by decide) (own_nar rfl ru2) (own_fits rfl ru2) (g := (mkF m 16 #[.val (.ref a1), .val u0, .val u1, .val u2] [u2, (.ref a1)])) rfl rfl (hb hby dx_prog_30_method_1_code_16)
  have Fw29 := f28.same W29
  have Z30 : n0 ≤ h29.size := Nat.le_trans Z26 (Keep.of_wr W29).1
  have K0_30 : Keep h0 h29 [a1] := K0_26.wr W29 (Or.inl (List.mem_of_getElem? (i := 0) rfl))
  have O30 : Old Z n0 h29 := O26.wr W29 g_a1
  have N29 := Fr.snoc X29 N25 g_a1
  have f31 := (f27.wr W29)
  have f32 := ((Fw21.other W25 (Or.inr (slot_ne (Or.inr (W 49 rfl)) (Or.inr (W 51 rfl)) (by decide) (t := (.object "java/lang/String")) (t' := (.object "java/lang/String")) (by decide) (by decide)))).other W29 (Or.inr (slot_ne (Or.inr (W 49 rfl)) (Or.inr (W 53 rfl)) (by decide) (t := (.object "java/lang/String")) (t' := (.object "java/lang/String")) (by decide) (by decide))))
  have f33 := (Fw25.other W29 (Or.inr (slot_ne (Or.inr (W 51 rfl)) (Or.inr (W 53 rfl)) (by decide) (t := (.object "java/lang/String")) (t' := (.object "java/lang/String")) (by decide) (by decide))))
  obtain ⟨fs, hr, hrun, hended, hW, hsame⟩ := X29.leave (v := none) (fun _ => rfl)
  refine ⟨_, _, pre0 _ ?_, hrun, hended, _, _, rfl, ?_, ⟨_, rfl⟩, hW, hsame.mono (Nat.le_of_ble_eq_true rfl) (Nat.le_of_ble_eq_true rfl)⟩
  · show Steps p.tables e below (s₁.setTop (mkF m 0 #[.val (.ref a1), .val u0, .val u1, .val u2] [])) _
    refine XS.aloadN X0.here hx rfl (hb hby dx_prog_30_method_1_code_0) rfl rfl ?_
    show Steps p.tables e below (s₁.setTop (mkF m 1 #[.val (.ref a1), .val u0, .val u1, .val u2] [(.ref a1)])) _
    refine st20 _ ?_
    show Steps p.tables e below (T20.setTop (mkF m 4 #[.val (.ref a1), .val u0, .val u1, .val u2] [])) _
    refine XS.aloadN X20.here hx rfl (hb hby dx_prog_30_method_1_code_4) rfl rfl ?_
    show Steps p.tables e below (T20.setTop (mkF m 5 #[.val (.ref a1), .val u0, .val u1, .val u2] [(.ref a1)])) _
    refine XS.aloadN X20.here hx rfl (hb hby dx_prog_30_method_1_code_5) rfl ru0 ?_
    show Steps p.tables e below (T20.setTop (mkF m 6 #[.val (.ref a1), .val u0, .val u1, .val u2] [u0, (.ref a1)])) _
    refine st21 _ ?_
    show Steps p.tables e below (T21.setTop (mkF m 9 #[.val (.ref a1), .val u0, .val u1, .val u2] [])) _
    refine XS.aloadN X21.here hx rfl (hb hby dx_prog_30_method_1_code_9) rfl rfl ?_
    show Steps p.tables e below (T21.setTop (mkF m 10 #[.val (.ref a1), .val u0, .val u1, .val u2] [(.ref a1)])) _
    refine XS.aloadN X21.here hx rfl (hb hby dx_prog_30_method_1_code_10) rfl ru1 ?_
    show Steps p.tables e below (T21.setTop (mkF m 11 #[.val (.ref a1), .val u0, .val u1, .val u2] [u1, (.ref a1)])) _
    refine st25 _ ?_
    show Steps p.tables e below (T25.setTop (mkF m 14 #[.val (.ref a1), .val u0, .val u1, .val u2] [])) _
    refine XS.aloadN X25.here hx rfl (hb hby dx_prog_30_method_1_code_14) rfl rfl ?_
    show Steps p.tables e below (T25.setTop (mkF m 15 #[.val (.ref a1), .val u0, .val u1, .val u2] [(.ref a1)])) _
    refine XS.aloadN X25.here hx rfl (hb hby dx_prog_30_method_1_code_15) rfl ru2 ?_
    show Steps p.tables e below (T25.setTop (mkF m 16 #[.val (.ref a1), .val u0, .val u1, .val u2] [u2, (.ref a1)])) _
    refine st29 _ ?_
    show Steps p.tables e below (T29.setTop (mkF m 19 #[.val (.ref a1), .val u0, .val u1, .val u2] [])) _
    exact X29.returnOut hx Bd.returns (hb hby dx_prog_30_method_1_code_19) hr
  · show Qtvi Z G1 em k0 k1 k2 k3 k4 k5 a1 u0 u1 u2 h0 n0 _ T29.heap _
    rw [e29]
    exact ⟨rfl, N29, K0_30, f31, f32, f33, Fw29⟩
theorem dx_prog_44_method_1_code_0 : decode prog_44_method_1_code 0 = .ok (.aload_n 0, 1) := by decide +kernel
theorem dx_prog_44_method_1_code_1 : decode prog_44_method_1_code 1 = .ok (.invokespecial 1, 3) := by decide +kernel
theorem dx_prog_44_method_1_code_4 : decode prog_44_method_1_code 4 = .ok (.aload_n 0, 1) := by decide +kernel
theorem dx_prog_44_method_1_code_5 : decode prog_44_method_1_code 5 = .ok (.aload_n 1, 1) := by decide +kernel
theorem dx_prog_44_method_1_code_6 : decode prog_44_method_1_code 6 = .ok (.putfield 7, 3) := by decide +kernel
theorem dx_prog_44_method_1_code_9 : decode prog_44_method_1_code 9 = .ok (.aload_n 0, 1) := by decide +kernel
theorem dx_prog_44_method_1_code_10 : decode prog_44_method_1_code 10 = .ok (.aload_n 2, 1) := by decide +kernel
theorem dx_prog_44_method_1_code_11 : decode prog_44_method_1_code 11 = .ok (.putfield 13, 3) := by decide +kernel
theorem dx_prog_44_method_1_code_14 : decode prog_44_method_1_code 14 = .ok (.aload_n 0, 1) := by decide +kernel
theorem dx_prog_44_method_1_code_15 : decode prog_44_method_1_code 15 = .ok (.aload_n 3, 1) := by decide +kernel
theorem dx_prog_44_method_1_code_16 : decode prog_44_method_1_code 16 = .ok (.putfield 17, 3) := by decide +kernel
theorem dx_prog_44_method_1_code_19 : decode prog_44_method_1_code 19 = .ok (.aload_n 0, 1) := by decide +kernel
theorem dx_prog_44_method_1_code_20 : decode prog_44_method_1_code 20 = .ok (.aload 4, 2) := by decide +kernel
theorem dx_prog_44_method_1_code_22 : decode prog_44_method_1_code 22 = .ok (.putfield 20, 3) := by decide +kernel
theorem dx_prog_44_method_1_code_25 : decode prog_44_method_1_code 25 = .ok (.aload_n 0, 1) := by decide +kernel
theorem dx_prog_44_method_1_code_26 : decode prog_44_method_1_code 26 = .ok (.aload 5, 2) := by decide +kernel
theorem dx_prog_44_method_1_code_28 : decode prog_44_method_1_code 28 = .ok (.putfield 23, 3) := by decide +kernel
theorem dx_prog_44_method_1_code_31 : decode prog_44_method_1_code 31 = .ok (.return_, 1) := by decide +kernel
def Qtfi (Z : State) (G1 : Int32) (em : Addr) (k0 : Addr) (k1 : Addr) (k2 : Addr) (k3 : Addr) (k4 : Addr) (k5 : Addr) (a1 : Addr) (u0 : Value) (u1 : Value) (u2 : Value) (u3 : Value) (u4 : Value) (h0 : Heap) (n0 : Nat) (v : Option Value) (h : Heap) (L : List Loc) : Prop := v = none ∧ Fr n0 L ∧ Keep h0 h [a1] ∧ Exa Z h a1 "com/example/clauses_to_controls/clausestocontrols/service/TailoringFinding" ∧ Fld Z h a1 "com/example/clauses_to_controls/clausestocontrols/service/TailoringFinding" "kind" "Lcom/example/clauses_to_controls/clausestocontrols/service/TailoringFinding$Kind;" u0 ∧ Fld Z h a1 "com/example/clauses_to_controls/clausestocontrols/service/TailoringFinding" "component" "Ljava/lang/String;" u1 ∧ Fld Z h a1 "com/example/clauses_to_controls/clausestocontrols/service/TailoringFinding" "parameter" "Ljava/lang/String;" u2 ∧ Fld Z h a1 "com/example/clauses_to_controls/clausestocontrols/service/TailoringFinding" "value" "Ljava/lang/String;" u3 ∧ Fld Z h a1 "com/example/clauses_to_controls/clausestocontrols/service/TailoringFinding" "standardValue" "Ljava/lang/String;" u4
theorem ef_prog_44_method_1_code_RVVVVV (m : MethodId) (x0 : Addr) (x1 : Value) (x2 : Value) (x3 : Value) (x4 : Value) (x5 : Value) (r1 : x1.isRef = true) (r2 : x2.isRef = true) (r3 : x3.isRef = true) (r4 : x4.isRef = true) (r5 : x5.isRef = true) : entryFrame m #[(.ref x0), x1, x2, x3, x4, x5] 6 = mkF m 0 #[.val (.ref x0), .val x1, .val x2, .val x3, .val x4, .val x5] [] := by
  simp [entryFrame, mkF, argsToLocals, own_cr, own_ci, own_cj, own_cn, own_cat r1, own_cat r2, own_cat r3, own_cat r4, own_cat r5]
abbrev y4 : MethodName := ⟨"com/example/clauses_to_controls/clausestocontrols/service/TailoringFinding", "<init>", "(Lcom/example/clauses_to_controls/clausestocontrols/service/TailoringFinding$Kind;Ljava/lang/String;Ljava/lang/String;Ljava/lang/String;Ljava/lang/String;)V"⟩
theorem pn_com_example_clauses_to_controls_clausestocontrols_service_TailoringFinding : plainName "com/example/clauses_to_controls/clausestocontrols/service/TailoringFinding" = true := by first | (simp [plainName, overriddenIn]; done) | decide +kernel
set_option maxRecDepth 65536 in
set_option maxHeartbeats 40000000 in
theorem rmtfi (l : Launch) (Z : State) (a0 : Array Value) (G1 : Int32) (em : Addr) (k0 : Addr) (k1 : Addr) (k2 : Addr) (k3 : Addr) (k4 : Addr) (k5 : Addr) (hG : Glob Z a0 G1 em k0 k1 k2 k3 k4 k5) (ws : List Jvm.Cond) (a1 : Addr) (u0 : Value) (u1 : Value) (u2 : Value) (u3 : Value) (u4 : Value) (h0 : Heap) (n0 : Nat) (Z0 : n0 ≤ h0.size) (X00 : Old Z n0 h0) (E_a1 : Exa Z h0 a1 "com/example/clauses_to_controls/clausestocontrols/service/TailoringFinding") (g_a1 : n0 ≤ a1) (F_kind_a1 : Fld Z h0 a1 "com/example/clauses_to_controls/clausestocontrols/service/TailoringFinding" "kind" "Lcom/example/clauses_to_controls/clausestocontrols/service/TailoringFinding$Kind;" .null) (F_component_a1 : Fld Z h0 a1 "com/example/clauses_to_controls/clausestocontrols/service/TailoringFinding" "component" "Ljava/lang/String;" .null) (F_parameter_a1 : Fld Z h0 a1 "com/example/clauses_to_controls/clausestocontrols/service/TailoringFinding" "parameter" "Ljava/lang/String;" .null) (F_value_a1 : Fld Z h0 a1 "com/example/clauses_to_controls/clausestocontrols/service/TailoringFinding" "value" "Ljava/lang/String;" .null) (F_standardValue_a1 : Fld Z h0 a1 "com/example/clauses_to_controls/clausestocontrols/service/TailoringFinding" "standardValue" "Ljava/lang/String;" .null) (ru0 : u0.isRef = true) (ru1 : u1.isRef = true) (ru2 : u2.isRef = true) (ru3 : u3.isRef = true) (ru4 : u4.isRef = true) :
    MetFree l y4 (head1 (Jvm.Cond.code y4 prog_44_method_1_code 6 none :: ws) ({ frames := 1, cells := 0, slots := 0, locals := 12 } : Room)) (fun a U => a = #[(.ref a1), u0, u1, u2, u3, u4] ∧ Z.Warmed39 U.vm ∧ U.heap = h0) (fun _ _ _ _ _ => True) (fun _ U o U' => ∃ v L, o = .returned v ∧ Qtfi Z G1 em k0 k1 k2 k3 k4 k5 a1 u0 u1 u2 u3 u4 h0 n0 v U'.heap L ∧ FrameEnd U o U' L ({ frames := 1, cells := 0, slots := 0, locals := 12 } : Room).cells ({ frames := 1, cells := 0, slots := 0, locals := 12 } : Room).slots) := by
  obtain ⟨hw, O_cs, P_cs, O_em, O_eem, O_vem, O_k0, O_k1, O_k2, O_k3, O_k4, O_k5⟩ := id hG
  have W : ∀ (i : Nat) {d : Jvm.Cond}, tables_1[i]? = some d → d.before a0 Z = true := fun i d h => hw d (List.mem_of_getElem? h)
  refine MetFree.of_bodySF (plainFor_of_name pn_com_example_clauses_to_controls_clausestocontrols_service_TailoringFinding) hisR ?_
  intro p e s m args below meth c s₁ Bd hml0 hP hK
  obtain ⟨rfl, hZ, hh⟩ := hP
  have hx := Bd.exec
  have hby := Bd.bytes
  have hml : c.maxLocals = 6 := hml0
  have hown : s.vm.findClass "com/example/clauses_to_controls/clausestocontrols/service/TailoringFinding" = some m.cls := findClass_of_methodNamed Bd.named
  have hnm := (name_of_methodNamed Bd.named Bd.method).1
  have X0 : Stand p l e ({ frames := 1, cells := 0, slots := 0, locals := 12 } : Room) s m #[(.ref a1), u0, u1, u2, u3, u4] below meth c s₁ [] 0 0 := Stand.of_body Bd
  have e0 : s₁.heap = h0 := by rw [← hh, Bd.state]; rfl
  have N0 := Fr.nil n0
  have pre0 : ∀ t, Steps p.tables e below (s₁.setTop (mkF m 0 #[.val (.ref a1), .val u0, .val u1, .val u2, .val u3, .val u4] [])) t → Steps p.tables e below (s₁.setTop (entryFrame m #[(.ref a1), u0, u1, u2, u3, u4] 6)) t := fun t kk_ => castTop (ef_prog_44_method_1_code_RVVVVV m a1 u0 u1 u2 u3 u4 ru0 ru1 ru2 ru3 ru4) kk_
  obtain ⟨T34, X34, e34, st34⟩ := initO X0 hx hZ hown (W 73 rfl) (W 23 rfl) (W 24 rfl) e0 (g := (mkF m 1 #[.val (.ref a1), .val u0, .val u1, .val u2, .val u3, .val u4] [(.ref a1)])) rfl (by rw [hml]; rfl) rfl (hb hby dx_prog_44_method_1_code_1) (by decide) (W := 0) (by show 2 * 0 + _ ≤ _; exact Nat.le_of_eq rfl) (by decide)
  obtain ⟨T35, h35, X35, e35, W35, st35⟩ := putF X34 hx hZ hown (host := "") (Or.inl (W 74 rfl)) Via.refl e34 F_kind_a1 E_a1 (Or.inr ⟨(W 75 rfl), rfl, hnm⟩) (W 59 rfl) (ty := (.object "com/example/clauses_to_controls/clausestocontrols/service/TailoringFinding$Kind")) (by decide) (own_nar rfl ru0) (own_fits rfl ru0) (g := (mkF m 6 #[.val (.ref a1), .val u0, .val u1, .val u2, .val u3, .val u4] [u0, (.ref a1)])) rfl rfl (hb hby dx_prog_44_method_1_code_6)
  have Fw35 := F_kind_a1.same W35
  have Z36 : n0 ≤ h35.size := Nat.le_trans Z0 (Keep.of_wr W35).1
  have K0_36 : Keep h0 h35 [a1] := (Keep.refl h0 [a1]).wr W35 (Or.inl (List.mem_of_getElem? (i := 0) rfl))
  have O36 : Old Z n0 h35 := X00.wr W35 g_a1
  have N35 := Fr.snoc X35 N0 g_a1
  have f37 := (E_a1.wr W35)
  have f38 := (F_component_a1.other W35 (Or.inr (slot_ne (Or.inr (W 77 rfl)) (Or.inr (W 75 rfl)) (by decide) (t := (.object "java/lang/String")) (t' := (.object "com/example/clauses_to_controls/clausestocontrols/service/TailoringFinding$Kind")) (by decide) (by decide))))
  obtain ⟨T39, h39, X39, e39, W39, st39⟩ := putF X35 hx hZ hown (host := "") (Or.inl (W 76 rfl)) Via.refl e35 f38 f37 (Or.inr ⟨(W 77 rfl), rfl, hnm⟩) (W 59 rfl) (ty := (.object "java/lang/String")) (by decide) (own_nar rfl ru1) (own_fits rfl ru1) (g := (mkF m 11 #[.val (.ref a1), .val u0, .val u1, .val u2, .val u3, .val u4] [u1, (.ref a1)])) rfl rfl (hb hby dx_prog_44_method_1_code_11)
  have Fw39 := f38.same W39
  have Z40 : n0 ≤ h39.size := Nat.le_trans Z36 (Keep.of_wr W39).1
  have K0_40 : Keep h0 h39 [a1] := K0_36.wr W39 (Or.inl (List.mem_of_getElem? (i := 0) rfl))
  have O40 : Old Z n0 h39 := O36.wr W39 g_a1
  have N39 := Fr.snoc X39 N35 g_a1
  have f41 := (f37.wr W39)
  have f42 := ((F_parameter_a1.other W35 (Or.inr (slot_ne (Or.inr (W 79 rfl)) (Or.inr (W 75 rfl)) (by decide) (t := (.object "java/lang/String")) (t' := (.object "com/example/clauses_to_controls/clausestocontrols/service/TailoringFinding$Kind")) (by decide) (by decide)))).other W39 (Or.inr (slot_ne (Or.inr (W 79 rfl)) (Or.inr (W 77 rfl)) (by decide) (t := (.object "java/lang/String")) (t' := (.object "java/lang/String")) (by decide) (by decide))))
  obtain ⟨T43, h43, X43, e43, W43, st43⟩ := putF X39 hx hZ hown (host := "") (Or.inl (W 78 rfl)) Via.refl e39 f42 f41 (Or.inr ⟨(W 79 rfl), rfl, hnm⟩) (W 59 rfl) (ty := (.object "java/lang/String")) (by decide) (own_nar rfl ru2) (own_fits rfl ru2) (g := (mkF m 16 #[.val (.ref a1), .val u0, .val u1, .val u2, .val u3, .val u4] [u2, (.ref a1)])) rfl rfl (hb hby dx_prog_44_method_1_code_16)
  have Fw43 := f42.same W43
  have Z44 : n0 ≤ h43.size := Nat.le_trans Z40 (Keep.of_wr W43).1
  have K0_44 : Keep h0 h43 [a1] := K0_40.wr W43 (Or.inl (List.mem_of_getElem? (i := 0) rfl))
  have O44 : Old Z n0 h43 := O40.wr W43 g_a1
  have N43 := Fr.snoc X43 N39 g_a1
  have f45 := (f41.wr W43)
  have f46 := (((F_value_a1.other W35 (Or.inr (slot_ne (Or.inr (W 81 rfl)) (Or.inr (W 75 rfl)) (by decide) (t := (.object "java/lang/String")) (t' := (.object "com/example/clauses_to_controls/clausestocontrols/service/TailoringFinding$Kind")) (by decide) (by decide)))).other W39 (Or.inr (slot_ne (Or.inr (W 81 rfl)) (Or.inr (W 77 rfl)) (by decide) (t := (.object "java/lang/String")) (t' := (.object "java/lang/String")) (by decide) (by decide)))).other W43 (Or.inr (slot_ne (Or.inr (W 81 rfl)) (Or.inr (W 79 rfl)) (by decide) (t := (.object "java/lang/String")) (t' := (.object "java/lang/String")) (by decide) (by decide))))
  obtain ⟨T47, h47, X47, e47, W47, st47⟩ := putF X43 hx hZ hown (host := "") (Or.inl (W 80 rfl)) Via.refl e43 f46 f45 (Or.inr ⟨(W 81 rfl), rfl, hnm⟩) (W 59 rfl) (ty := (.object "java/lang/String")) (by decide) (own_nar rfl ru3) (own_fits rfl ru3) (g := (mkF m 22 #[.val (.ref a1), .val u0, .val u1, .val u2, .val u3, .val u4] [u3, (.ref a1)])) rfl rfl (hb hby dx_prog_44_method_1_code_22)
  have Fw47 := f46.same W47
  have Z48 : n0 ≤ h47.size := Nat.le_trans Z44 (Keep.of_wr W47).1
  have K0_48 : Keep h0 h47 [a1] := K0_44.wr W47 (Or.inl (List.mem_of_getElem? (i := 0) rfl))
  have O48 : Old Z n0 h47 := O44.wr W47 g_a1
  have N47 := Fr.snoc X47 N43 g_a1
  have f49 := (f45.wr W47)
  have f50 := ((((F_standardValue_a1.other W35 (Or.inr (slot_ne (Or.inr (W 83 rfl)) (Or.inr (W 75 rfl)) (by decide) (t := (.object "java/lang/String")) (t' := (.object "com/example/clauses_to_controls/clausestocontrols/service/TailoringFinding$Kind")) (by decide) (by decide)))).other W39 (Or.inr (slot_ne (Or.inr (W 83 rfl)) (Or.inr (W 77 rfl)) (by decide) (t := (.object "java/lang/String")) (t' := (.object "java/lang/String")) (by decide) (by decide)))).other W43 (Or.inr (slot_ne (Or.inr (W 83 rfl)) (Or.inr (W 79 rfl)) (by decide) (t := (.object "java/lang/String")) (t' := (.object "java/lang/String")) (by decide) (by decide)))).other W47 (Or.inr (slot_ne (Or.inr (W 83 rfl)) (Or.inr (W 81 rfl)) (by decide) (t := (.object "java/lang/String")) (t' := (.object "java/lang/String")) (by decide) (by decide))))
  obtain ⟨T51, h51, X51, e51, W51, st51⟩ := putF X47 hx hZ hown (host := "") (Or.inl (W 82 rfl)) Via.refl e47 f50 f49 (Or.inr ⟨(W 83 rfl), rfl, hnm⟩) (W 59 rfl) (ty := (.object "java/lang/String")) (by decide) (own_nar rfl ru4) (own_fits rfl ru4) (g := (mkF m 28 #[.val (.ref a1), .val u0, .val u1, .val u2, .val u3, .val u4] [u4, (.ref a1)])) rfl rfl (hb hby dx_prog_44_method_1_code_28)
  have Fw51 := f50.same W51
  have Z52 : n0 ≤ h51.size := Nat.le_trans Z48 (Keep.of_wr W51).1
  have K0_52 : Keep h0 h51 [a1] := K0_48.wr W51 (Or.inl (List.mem_of_getElem? (i := 0) rfl))
  have O52 : Old Z n0 h51 := O48.wr W51 g_a1
  have N51 := Fr.snoc X51 N47 g_a1
  have f53 := (f49.wr W51)
  have f54 := ((((Fw35.other W39 (Or.inr (slot_ne (Or.inr (W 75 rfl)) (Or.inr (W 77 rfl)) (by decide) (t := (.object "com/example/clauses_to_controls/clausestocontrols/service/TailoringFinding$Kind")) (t' := (.object "java/lang/String")) (by decide) (by decide)))).other W43 (Or.inr (slot_ne (Or.inr (W 75 rfl)) (Or.inr (W 79 rfl)) (by decide) (t := (.object "com/example/clauses_to_controls/clausestocontrols/service/TailoringFinding$Kind")) (t' := (.object "java/lang/String")) (by decide) (by decide)))).other W47 (Or.inr (slot_ne (Or.inr (W 75 rfl)) (Or.inr (W 81 rfl)) (by decide) (t := (.object "com/example/clauses_to_controls/clausestocontrols/service/TailoringFinding$Kind")) (t' := (.object "java/lang/String")) (by decide) (by decide)))).other W51 (Or.inr (slot_ne (Or.inr (W 75 rfl)) (Or.inr (W 83 rfl)) (by decide) (t := (.object "com/example/clauses_to_controls/clausestocontrols/service/TailoringFinding$Kind")) (t' := (.object "java/lang/String")) (by decide) (by decide))))
  have f55 := (((Fw39.other W43 (Or.inr (slot_ne (Or.inr (W 77 rfl)) (Or.inr (W 79 rfl)) (by decide) (t := (.object "java/lang/String")) (t' := (.object "java/lang/String")) (by decide) (by decide)))).other W47 (Or.inr (slot_ne (Or.inr (W 77 rfl)) (Or.inr (W 81 rfl)) (by decide) (t := (.object "java/lang/String")) (t' := (.object "java/lang/String")) (by decide) (by decide)))).other W51 (Or.inr (slot_ne (Or.inr (W 77 rfl)) (Or.inr (W 83 rfl)) (by decide) (t := (.object "java/lang/String")) (t' := (.object "java/lang/String")) (by decide) (by decide))))
  have f56 := ((Fw43.other W47 (Or.inr (slot_ne (Or.inr (W 79 rfl)) (Or.inr (W 81 rfl)) (by decide) (t := (.object "java/lang/String")) (t' := (.object "java/lang/String")) (by decide) (by decide)))).other W51 (Or.inr (slot_ne (Or.inr (W 79 rfl)) (Or.inr (W 83 rfl)) (by decide) (t := (.object "java/lang/String")) (t' := (.object "java/lang/String")) (by decide) (by decide))))
  have f57 := (Fw47.other W51 (Or.inr (slot_ne (Or.inr (W 81 rfl)) (Or.inr (W 83 rfl)) (by decide) (t := (.object "java/lang/String")) (t' := (.object "java/lang/String")) (by decide) (by decide))))
  obtain ⟨fs, hr, hrun, hended, hW, hsame⟩ := X51.leave (v := none) (fun _ => rfl)
  refine ⟨_, _, pre0 _ ?_, hrun, hended, _, _, rfl, ?_, ⟨_, rfl⟩, hW, hsame.mono (Nat.le_of_ble_eq_true rfl) (Nat.le_of_ble_eq_true rfl)⟩
  · show Steps p.tables e below (s₁.setTop (mkF m 0 #[.val (.ref a1), .val u0, .val u1, .val u2, .val u3, .val u4] [])) _
    refine XS.aloadN X0.here hx rfl (hb hby dx_prog_44_method_1_code_0) rfl rfl ?_
    show Steps p.tables e below (s₁.setTop (mkF m 1 #[.val (.ref a1), .val u0, .val u1, .val u2, .val u3, .val u4] [(.ref a1)])) _
    refine st34 _ ?_
    show Steps p.tables e below (T34.setTop (mkF m 4 #[.val (.ref a1), .val u0, .val u1, .val u2, .val u3, .val u4] [])) _
    refine XS.aloadN X34.here hx rfl (hb hby dx_prog_44_method_1_code_4) rfl rfl ?_
    show Steps p.tables e below (T34.setTop (mkF m 5 #[.val (.ref a1), .val u0, .val u1, .val u2, .val u3, .val u4] [(.ref a1)])) _
    refine XS.aloadN X34.here hx rfl (hb hby dx_prog_44_method_1_code_5) rfl ru0 ?_
    show Steps p.tables e below (T34.setTop (mkF m 6 #[.val (.ref a1), .val u0, .val u1, .val u2, .val u3, .val u4] [u0, (.ref a1)])) _
    refine st35 _ ?_
    show Steps p.tables e below (T35.setTop (mkF m 9 #[.val (.ref a1), .val u0, .val u1, .val u2, .val u3, .val u4] [])) _
    refine XS.aloadN X35.here hx rfl (hb hby dx_prog_44_method_1_code_9) rfl rfl ?_
    show Steps p.tables e below (T35.setTop (mkF m 10 #[.val (.ref a1), .val u0, .val u1, .val u2, .val u3, .val u4] [(.ref a1)])) _
    refine XS.aloadN X35.here hx rfl (hb hby dx_prog_44_method_1_code_10) rfl ru1 ?_
    show Steps p.tables e below (T35.setTop (mkF m 11 #[.val (.ref a1), .val u0, .val u1, .val u2, .val u3, .val u4] [u1, (.ref a1)])) _
    refine st39 _ ?_
    show Steps p.tables e below (T39.setTop (mkF m 14 #[.val (.ref a1), .val u0, .val u1, .val u2, .val u3, .val u4] [])) _
    refine XS.aloadN X39.here hx rfl (hb hby dx_prog_44_method_1_code_14) rfl rfl ?_
    show Steps p.tables e below (T39.setTop (mkF m 15 #[.val (.ref a1), .val u0, .val u1, .val u2, .val u3, .val u4] [(.ref a1)])) _
    refine XS.aloadN X39.here hx rfl (hb hby dx_prog_44_method_1_code_15) rfl ru2 ?_
    show Steps p.tables e below (T39.setTop (mkF m 16 #[.val (.ref a1), .val u0, .val u1, .val u2, .val u3, .val u4] [u2, (.ref a1)])) _
    refine st43 _ ?_
    show Steps p.tables e below (T43.setTop (mkF m 19 #[.val (.ref a1), .val u0, .val u1, .val u2, .val u3, .val u4] [])) _
    refine XS.aloadN X43.here hx rfl (hb hby dx_prog_44_method_1_code_19) rfl rfl ?_
    show Steps p.tables e below (T43.setTop (mkF m 20 #[.val (.ref a1), .val u0, .val u1, .val u2, .val u3, .val u4] [(.ref a1)])) _
    refine XS.aload X43.here hx rfl (hb hby dx_prog_44_method_1_code_20) rfl ru3 ?_
    show Steps p.tables e below (T43.setTop (mkF m 22 #[.val (.ref a1), .val u0, .val u1, .val u2, .val u3, .val u4] [u3, (.ref a1)])) _
    refine st47 _ ?_
    show Steps p.tables e below (T47.setTop (mkF m 25 #[.val (.ref a1), .val u0, .val u1, .val u2, .val u3, .val u4] [])) _
    refine XS.aloadN X47.here hx rfl (hb hby dx_prog_44_method_1_code_25) rfl rfl ?_
    show Steps p.tables e below (T47.setTop (mkF m 26 #[.val (.ref a1), .val u0, .val u1, .val u2, .val u3, .val u4] [(.ref a1)])) _
    refine XS.aload X47.here hx rfl (hb hby dx_prog_44_method_1_code_26) rfl ru4 ?_
    show Steps p.tables e below (T47.setTop (mkF m 28 #[.val (.ref a1), .val u0, .val u1, .val u2, .val u3, .val u4] [u4, (.ref a1)])) _
    refine st51 _ ?_
    show Steps p.tables e below (T51.setTop (mkF m 31 #[.val (.ref a1), .val u0, .val u1, .val u2, .val u3, .val u4] [])) _
    exact X51.returnOut hx Bd.returns (hb hby dx_prog_44_method_1_code_31) hr
  · show Qtfi Z G1 em k0 k1 k2 k3 k4 k5 a1 u0 u1 u2 u3 u4 h0 n0 _ T51.heap _
    rw [e51]
    exact ⟨rfl, N51, K0_52, f53, f54, f55, f56, f57, Fw51⟩
theorem dx_prog_30_method_2_code_0 : decode prog_30_method_2_code 0 = .ok (.aload_n 0, 1) := by decide +kernel
theorem dx_prog_30_method_2_code_1 : decode prog_30_method_2_code 1 = .ok (.getfield 7, 3) := by decide +kernel
theorem dx_prog_30_method_2_code_4 : decode prog_30_method_2_code 4 = .ok (.areturn, 1) := by decide +kernel
def QG_TailoredValue_component (Z : State) (G1 : Int32) (em : Addr) (k0 : Addr) (k1 : Addr) (k2 : Addr) (k3 : Addr) (k4 : Addr) (k5 : Addr) (a1 : Addr) (u : Value) (h0 : Heap) (n0 : Nat) (v : Option Value) (h : Heap) (L : List Loc) : Prop := v = some u ∧ Fr n0 L ∧ h = h0
theorem ef_prog_30_method_2_code_R (m : MethodId) (x0 : Addr) : entryFrame m #[(.ref x0)] 1 = mkF m 0 #[.val (.ref x0)] [] := by first | (simp [entryFrame, mkF, argsToLocals, Value.category]; done) | rfl
abbrev y5 : MethodName := ⟨"com/example/clauses_to_controls/clausestocontrols/model/TailoredValue", "component", "()Ljava/lang/String;"⟩
set_option maxRecDepth 65536 in
set_option maxHeartbeats 40000000 in
theorem rmG_TailoredValue_component (l : Launch) (Z : State) (a0 : Array Value) (G1 : Int32) (em : Addr) (k0 : Addr) (k1 : Addr) (k2 : Addr) (k3 : Addr) (k4 : Addr) (k5 : Addr) (hG : Glob Z a0 G1 em k0 k1 k2 k3 k4 k5) (ws : List Jvm.Cond) (a1 : Addr) (u : Value) (h0 : Heap) (n0 : Nat) (Z0 : n0 ≤ h0.size) (X00 : Old Z n0 h0) (F_component_a1 : Fld Z h0 a1 "com/example/clauses_to_controls/clausestocontrols/model/TailoredValue" "component" "Ljava/lang/String;" u) (ru : u.isRef = true) :
    MetFree l y5 (head1 (Jvm.Cond.code y5 prog_30_method_2_code 1 (some (.object "java/lang/String")) :: ws) ({ frames := 0, cells := 0, slots := 0, locals := 0 } : Room)) (fun a U => a = #[(.ref a1)] ∧ Z.Warmed39 U.vm ∧ U.heap = h0) (fun _ _ _ _ _ => True) (fun _ U o U' => ∃ v L, o = .returned v ∧ QG_TailoredValue_component Z G1 em k0 k1 k2 k3 k4 k5 a1 u h0 n0 v U'.heap L ∧ FrameEnd U o U' L ({ frames := 0, cells := 0, slots := 0, locals := 0 } : Room).cells ({ frames := 0, cells := 0, slots := 0, locals := 0 } : Room).slots) := by
  obtain ⟨hw, O_cs, P_cs, O_em, O_eem, O_vem, O_k0, O_k1, O_k2, O_k3, O_k4, O_k5⟩ := id hG
  have W : ∀ (i : Nat) {d : Jvm.Cond}, tables_1[i]? = some d → d.before a0 Z = true := fun i d h => hw d (List.mem_of_getElem? h)
  refine MetFree.of_bodySF (plainFor_of_name pn_com_example_clauses_to_controls_clausestocontrols_model_TailoredValue) hisR ?_
  intro p e s m args below meth c s₁ Bd hml0 hP hK
  obtain ⟨rfl, hZ, hh⟩ := hP
  have hx := Bd.exec
  have hby := Bd.bytes
  have hml : c.maxLocals = 1 := hml0
  have hown : s.vm.findClass "com/example/clauses_to_controls/clausestocontrols/model/TailoredValue" = some m.cls := findClass_of_methodNamed Bd.named
  have hnm := (name_of_methodNamed Bd.named Bd.method).1
  have X0 : Stand p l e ({ frames := 0, cells := 0, slots := 0, locals := 0 } : Room) s m #[(.ref a1)] below meth c s₁ [] 0 0 := Stand.of_body Bd
  have e0 : s₁.heap = h0 := by rw [← hh, Bd.state]; rfl
  have N0 := Fr.nil n0
  have pre0 : ∀ t, Steps p.tables e below (s₁.setTop (mkF m 0 #[.val (.ref a1)] [])) t → Steps p.tables e below (s₁.setTop (entryFrame m #[(.ref a1)] 1)) t := fun t kk_ => castTop (ef_prog_30_method_2_code_R m a1) kk_
  obtain ⟨T58, X58, e58, st58⟩ := getF X0 hx hZ hown (host := "") (Or.inl (W 48 rfl)) Via.refl e0 F_component_a1 (g := (mkF m 1 #[.val (.ref a1)] [(.ref a1)])) rfl rfl (hb hby dx_prog_30_method_2_code_1)
  obtain ⟨fs, hr, hrun, hended, hW, hsame⟩ := X58.leave (v := some u) (fun h => by rw [Bd.returns] at h; cases h)
  refine ⟨_, _, pre0 _ ?_, hrun, hended, _, _, rfl, ?_, ⟨_, rfl⟩, hW, hsame.mono (Nat.le_of_ble_eq_true rfl) (Nat.le_of_ble_eq_true rfl)⟩
  · show Steps p.tables e below (s₁.setTop (mkF m 0 #[.val (.ref a1)] [])) _
    refine XS.aloadN X0.here hx rfl (hb hby dx_prog_30_method_2_code_0) rfl rfl ?_
    show Steps p.tables e below (s₁.setTop (mkF m 1 #[.val (.ref a1)] [(.ref a1)])) _
    refine st58 _ ?_
    show Steps p.tables e below (T58.setTop (mkF m 4 #[.val (.ref a1)] [u])) _
    exact retOut X58 hx Bd.returns (own_nar rfl ru) (Or.inr (Or.inr (Or.inr (Or.inr ⟨rfl, rfl, ru⟩)))) (hb hby dx_prog_30_method_2_code_4) hr
  · show QG_TailoredValue_component Z G1 em k0 k1 k2 k3 k4 k5 a1 u h0 n0 _ T58.heap _
    rw [e58]
    exact ⟨rfl, N0, rfl⟩
theorem dx_prog_30_method_3_code_0 : decode prog_30_method_3_code 0 = .ok (.aload_n 0, 1) := by decide +kernel
theorem dx_prog_30_method_3_code_1 : decode prog_30_method_3_code 1 = .ok (.getfield 13, 3) := by decide +kernel
theorem dx_prog_30_method_3_code_4 : decode prog_30_method_3_code 4 = .ok (.areturn, 1) := by decide +kernel
def QG_TailoredValue_parameter (Z : State) (G1 : Int32) (em : Addr) (k0 : Addr) (k1 : Addr) (k2 : Addr) (k3 : Addr) (k4 : Addr) (k5 : Addr) (a1 : Addr) (u : Value) (h0 : Heap) (n0 : Nat) (v : Option Value) (h : Heap) (L : List Loc) : Prop := v = some u ∧ Fr n0 L ∧ h = h0
theorem ef_prog_30_method_3_code_R (m : MethodId) (x0 : Addr) : entryFrame m #[(.ref x0)] 1 = mkF m 0 #[.val (.ref x0)] [] := by first | (simp [entryFrame, mkF, argsToLocals, Value.category]; done) | rfl
abbrev y6 : MethodName := ⟨"com/example/clauses_to_controls/clausestocontrols/model/TailoredValue", "parameter", "()Ljava/lang/String;"⟩
set_option maxRecDepth 65536 in
set_option maxHeartbeats 40000000 in
theorem rmG_TailoredValue_parameter (l : Launch) (Z : State) (a0 : Array Value) (G1 : Int32) (em : Addr) (k0 : Addr) (k1 : Addr) (k2 : Addr) (k3 : Addr) (k4 : Addr) (k5 : Addr) (hG : Glob Z a0 G1 em k0 k1 k2 k3 k4 k5) (ws : List Jvm.Cond) (a1 : Addr) (u : Value) (h0 : Heap) (n0 : Nat) (Z0 : n0 ≤ h0.size) (X00 : Old Z n0 h0) (F_parameter_a1 : Fld Z h0 a1 "com/example/clauses_to_controls/clausestocontrols/model/TailoredValue" "parameter" "Ljava/lang/String;" u) (ru : u.isRef = true) :
    MetFree l y6 (head1 (Jvm.Cond.code y6 prog_30_method_3_code 1 (some (.object "java/lang/String")) :: ws) ({ frames := 0, cells := 0, slots := 0, locals := 0 } : Room)) (fun a U => a = #[(.ref a1)] ∧ Z.Warmed39 U.vm ∧ U.heap = h0) (fun _ _ _ _ _ => True) (fun _ U o U' => ∃ v L, o = .returned v ∧ QG_TailoredValue_parameter Z G1 em k0 k1 k2 k3 k4 k5 a1 u h0 n0 v U'.heap L ∧ FrameEnd U o U' L ({ frames := 0, cells := 0, slots := 0, locals := 0 } : Room).cells ({ frames := 0, cells := 0, slots := 0, locals := 0 } : Room).slots) := by
  obtain ⟨hw, O_cs, P_cs, O_em, O_eem, O_vem, O_k0, O_k1, O_k2, O_k3, O_k4, O_k5⟩ := id hG
  have W : ∀ (i : Nat) {d : Jvm.Cond}, tables_1[i]? = some d → d.before a0 Z = true := fun i d h => hw d (List.mem_of_getElem? h)
  refine MetFree.of_bodySF (plainFor_of_name pn_com_example_clauses_to_controls_clausestocontrols_model_TailoredValue) hisR ?_
  intro p e s m args below meth c s₁ Bd hml0 hP hK
  obtain ⟨rfl, hZ, hh⟩ := hP
  have hx := Bd.exec
  have hby := Bd.bytes
  have hml : c.maxLocals = 1 := hml0
  have hown : s.vm.findClass "com/example/clauses_to_controls/clausestocontrols/model/TailoredValue" = some m.cls := findClass_of_methodNamed Bd.named
  have hnm := (name_of_methodNamed Bd.named Bd.method).1
  have X0 : Stand p l e ({ frames := 0, cells := 0, slots := 0, locals := 0 } : Room) s m #[(.ref a1)] below meth c s₁ [] 0 0 := Stand.of_body Bd
  have e0 : s₁.heap = h0 := by rw [← hh, Bd.state]; rfl
  have N0 := Fr.nil n0
  have pre0 : ∀ t, Steps p.tables e below (s₁.setTop (mkF m 0 #[.val (.ref a1)] [])) t → Steps p.tables e below (s₁.setTop (entryFrame m #[(.ref a1)] 1)) t := fun t kk_ => castTop (ef_prog_30_method_3_code_R m a1) kk_
  obtain ⟨T59, X59, e59, st59⟩ := getF X0 hx hZ hown (host := "") (Or.inl (W 50 rfl)) Via.refl e0 F_parameter_a1 (g := (mkF m 1 #[.val (.ref a1)] [(.ref a1)])) rfl rfl (hb hby dx_prog_30_method_3_code_1)
  obtain ⟨fs, hr, hrun, hended, hW, hsame⟩ := X59.leave (v := some u) (fun h => by rw [Bd.returns] at h; cases h)
  refine ⟨_, _, pre0 _ ?_, hrun, hended, _, _, rfl, ?_, ⟨_, rfl⟩, hW, hsame.mono (Nat.le_of_ble_eq_true rfl) (Nat.le_of_ble_eq_true rfl)⟩
  · show Steps p.tables e below (s₁.setTop (mkF m 0 #[.val (.ref a1)] [])) _
    refine XS.aloadN X0.here hx rfl (hb hby dx_prog_30_method_3_code_0) rfl rfl ?_
    show Steps p.tables e below (s₁.setTop (mkF m 1 #[.val (.ref a1)] [(.ref a1)])) _
    refine st59 _ ?_
    show Steps p.tables e below (T59.setTop (mkF m 4 #[.val (.ref a1)] [u])) _
    exact retOut X59 hx Bd.returns (own_nar rfl ru) (Or.inr (Or.inr (Or.inr (Or.inr ⟨rfl, rfl, ru⟩)))) (hb hby dx_prog_30_method_3_code_4) hr
  · show QG_TailoredValue_parameter Z G1 em k0 k1 k2 k3 k4 k5 a1 u h0 n0 _ T59.heap _
    rw [e59]
    exact ⟨rfl, N0, rfl⟩
theorem dx_prog_44_method_6_code_0 : decode prog_44_method_6_code 0 = .ok (.aload_n 0, 1) := by decide +kernel
theorem dx_prog_44_method_6_code_1 : decode prog_44_method_6_code 1 = .ok (.getfield 7, 3) := by decide +kernel
theorem dx_prog_44_method_6_code_4 : decode prog_44_method_6_code 4 = .ok (.areturn, 1) := by decide +kernel
def QG_TailoringFinding_kind (Z : State) (G1 : Int32) (em : Addr) (k0 : Addr) (k1 : Addr) (k2 : Addr) (k3 : Addr) (k4 : Addr) (k5 : Addr) (a1 : Addr) (u : Value) (h0 : Heap) (n0 : Nat) (v : Option Value) (h : Heap) (L : List Loc) : Prop := v = some u ∧ Fr n0 L ∧ h = h0
theorem ef_prog_44_method_6_code_R (m : MethodId) (x0 : Addr) : entryFrame m #[(.ref x0)] 1 = mkF m 0 #[.val (.ref x0)] [] := by first | (simp [entryFrame, mkF, argsToLocals, Value.category]; done) | rfl
abbrev y7 : MethodName := ⟨"com/example/clauses_to_controls/clausestocontrols/service/TailoringFinding", "kind", "()Lcom/example/clauses_to_controls/clausestocontrols/service/TailoringFinding$Kind;"⟩
set_option maxRecDepth 65536 in
set_option maxHeartbeats 40000000 in
theorem rmG_TailoringFinding_kind (l : Launch) (Z : State) (a0 : Array Value) (G1 : Int32) (em : Addr) (k0 : Addr) (k1 : Addr) (k2 : Addr) (k3 : Addr) (k4 : Addr) (k5 : Addr) (hG : Glob Z a0 G1 em k0 k1 k2 k3 k4 k5) (ws : List Jvm.Cond) (a1 : Addr) (u : Value) (h0 : Heap) (n0 : Nat) (Z0 : n0 ≤ h0.size) (X00 : Old Z n0 h0) (F_kind_a1 : Fld Z h0 a1 "com/example/clauses_to_controls/clausestocontrols/service/TailoringFinding" "kind" "Lcom/example/clauses_to_controls/clausestocontrols/service/TailoringFinding$Kind;" u) (ru : u.isRef = true) :
    MetFree l y7 (head1 (Jvm.Cond.code y7 prog_44_method_6_code 1 (some (.object "com/example/clauses_to_controls/clausestocontrols/service/TailoringFinding$Kind")) :: ws) ({ frames := 0, cells := 0, slots := 0, locals := 0 } : Room)) (fun a U => a = #[(.ref a1)] ∧ Z.Warmed39 U.vm ∧ U.heap = h0) (fun _ _ _ _ _ => True) (fun _ U o U' => ∃ v L, o = .returned v ∧ QG_TailoringFinding_kind Z G1 em k0 k1 k2 k3 k4 k5 a1 u h0 n0 v U'.heap L ∧ FrameEnd U o U' L ({ frames := 0, cells := 0, slots := 0, locals := 0 } : Room).cells ({ frames := 0, cells := 0, slots := 0, locals := 0 } : Room).slots) := by
  obtain ⟨hw, O_cs, P_cs, O_em, O_eem, O_vem, O_k0, O_k1, O_k2, O_k3, O_k4, O_k5⟩ := id hG
  have W : ∀ (i : Nat) {d : Jvm.Cond}, tables_1[i]? = some d → d.before a0 Z = true := fun i d h => hw d (List.mem_of_getElem? h)
  refine MetFree.of_bodySF (plainFor_of_name pn_com_example_clauses_to_controls_clausestocontrols_service_TailoringFinding) hisR ?_
  intro p e s m args below meth c s₁ Bd hml0 hP hK
  obtain ⟨rfl, hZ, hh⟩ := hP
  have hx := Bd.exec
  have hby := Bd.bytes
  have hml : c.maxLocals = 1 := hml0
  have hown : s.vm.findClass "com/example/clauses_to_controls/clausestocontrols/service/TailoringFinding" = some m.cls := findClass_of_methodNamed Bd.named
  have hnm := (name_of_methodNamed Bd.named Bd.method).1
  have X0 : Stand p l e ({ frames := 0, cells := 0, slots := 0, locals := 0 } : Room) s m #[(.ref a1)] below meth c s₁ [] 0 0 := Stand.of_body Bd
  have e0 : s₁.heap = h0 := by rw [← hh, Bd.state]; rfl
  have N0 := Fr.nil n0
  have pre0 : ∀ t, Steps p.tables e below (s₁.setTop (mkF m 0 #[.val (.ref a1)] [])) t → Steps p.tables e below (s₁.setTop (entryFrame m #[(.ref a1)] 1)) t := fun t kk_ => castTop (ef_prog_44_method_6_code_R m a1) kk_
  obtain ⟨T60, X60, e60, st60⟩ := getF X0 hx hZ hown (host := "") (Or.inl (W 74 rfl)) Via.refl e0 F_kind_a1 (g := (mkF m 1 #[.val (.ref a1)] [(.ref a1)])) rfl rfl (hb hby dx_prog_44_method_6_code_1)
  obtain ⟨fs, hr, hrun, hended, hW, hsame⟩ := X60.leave (v := some u) (fun h => by rw [Bd.returns] at h; cases h)
  refine ⟨_, _, pre0 _ ?_, hrun, hended, _, _, rfl, ?_, ⟨_, rfl⟩, hW, hsame.mono (Nat.le_of_ble_eq_true rfl) (Nat.le_of_ble_eq_true rfl)⟩
  · show Steps p.tables e below (s₁.setTop (mkF m 0 #[.val (.ref a1)] [])) _
    refine XS.aloadN X0.here hx rfl (hb hby dx_prog_44_method_6_code_0) rfl rfl ?_
    show Steps p.tables e below (s₁.setTop (mkF m 1 #[.val (.ref a1)] [(.ref a1)])) _
    refine st60 _ ?_
    show Steps p.tables e below (T60.setTop (mkF m 4 #[.val (.ref a1)] [u])) _
    exact retOut X60 hx Bd.returns (own_nar rfl ru) (Or.inr (Or.inr (Or.inr (Or.inr ⟨rfl, rfl, ru⟩)))) (hb hby dx_prog_44_method_6_code_4) hr
  · show QG_TailoringFinding_kind Z G1 em k0 k1 k2 k3 k4 k5 a1 u h0 n0 _ T60.heap _
    rw [e60]
    exact ⟨rfl, N0, rfl⟩
theorem dx_prog_44_method_7_code_0 : decode prog_44_method_7_code 0 = .ok (.aload_n 0, 1) := by decide +kernel
theorem dx_prog_44_method_7_code_1 : decode prog_44_method_7_code 1 = .ok (.getfield 13, 3) := by decide +kernel
theorem dx_prog_44_method_7_code_4 : decode prog_44_method_7_code 4 = .ok (.areturn, 1) := by decide +kernel
def QG_TailoringFinding_component (Z : State) (G1 : Int32) (em : Addr) (k0 : Addr) (k1 : Addr) (k2 : Addr) (k3 : Addr) (k4 : Addr) (k5 : Addr) (a1 : Addr) (u : Value) (h0 : Heap) (n0 : Nat) (v : Option Value) (h : Heap) (L : List Loc) : Prop := v = some u ∧ Fr n0 L ∧ h = h0
theorem ef_prog_44_method_7_code_R (m : MethodId) (x0 : Addr) : entryFrame m #[(.ref x0)] 1 = mkF m 0 #[.val (.ref x0)] [] := by first | (simp [entryFrame, mkF, argsToLocals, Value.category]; done) | rfl
abbrev y8 : MethodName := ⟨"com/example/clauses_to_controls/clausestocontrols/service/TailoringFinding", "component", "()Ljava/lang/String;"⟩
set_option maxRecDepth 65536 in
set_option maxHeartbeats 40000000 in
theorem rmG_TailoringFinding_component (l : Launch) (Z : State) (a0 : Array Value) (G1 : Int32) (em : Addr) (k0 : Addr) (k1 : Addr) (k2 : Addr) (k3 : Addr) (k4 : Addr) (k5 : Addr) (hG : Glob Z a0 G1 em k0 k1 k2 k3 k4 k5) (ws : List Jvm.Cond) (a1 : Addr) (u : Value) (h0 : Heap) (n0 : Nat) (Z0 : n0 ≤ h0.size) (X00 : Old Z n0 h0) (F_component_a1 : Fld Z h0 a1 "com/example/clauses_to_controls/clausestocontrols/service/TailoringFinding" "component" "Ljava/lang/String;" u) (ru : u.isRef = true) :
    MetFree l y8 (head1 (Jvm.Cond.code y8 prog_44_method_7_code 1 (some (.object "java/lang/String")) :: ws) ({ frames := 0, cells := 0, slots := 0, locals := 0 } : Room)) (fun a U => a = #[(.ref a1)] ∧ Z.Warmed39 U.vm ∧ U.heap = h0) (fun _ _ _ _ _ => True) (fun _ U o U' => ∃ v L, o = .returned v ∧ QG_TailoringFinding_component Z G1 em k0 k1 k2 k3 k4 k5 a1 u h0 n0 v U'.heap L ∧ FrameEnd U o U' L ({ frames := 0, cells := 0, slots := 0, locals := 0 } : Room).cells ({ frames := 0, cells := 0, slots := 0, locals := 0 } : Room).slots) := by
  obtain ⟨hw, O_cs, P_cs, O_em, O_eem, O_vem, O_k0, O_k1, O_k2, O_k3, O_k4, O_k5⟩ := id hG
  have W : ∀ (i : Nat) {d : Jvm.Cond}, tables_1[i]? = some d → d.before a0 Z = true := fun i d h => hw d (List.mem_of_getElem? h)
  refine MetFree.of_bodySF (plainFor_of_name pn_com_example_clauses_to_controls_clausestocontrols_service_TailoringFinding) hisR ?_
  intro p e s m args below meth c s₁ Bd hml0 hP hK
  obtain ⟨rfl, hZ, hh⟩ := hP
  have hx := Bd.exec
  have hby := Bd.bytes
  have hml : c.maxLocals = 1 := hml0
  have hown : s.vm.findClass "com/example/clauses_to_controls/clausestocontrols/service/TailoringFinding" = some m.cls := findClass_of_methodNamed Bd.named
  have hnm := (name_of_methodNamed Bd.named Bd.method).1
  have X0 : Stand p l e ({ frames := 0, cells := 0, slots := 0, locals := 0 } : Room) s m #[(.ref a1)] below meth c s₁ [] 0 0 := Stand.of_body Bd
  have e0 : s₁.heap = h0 := by rw [← hh, Bd.state]; rfl
  have N0 := Fr.nil n0
  have pre0 : ∀ t, Steps p.tables e below (s₁.setTop (mkF m 0 #[.val (.ref a1)] [])) t → Steps p.tables e below (s₁.setTop (entryFrame m #[(.ref a1)] 1)) t := fun t kk_ => castTop (ef_prog_44_method_7_code_R m a1) kk_
  obtain ⟨T61, X61, e61, st61⟩ := getF X0 hx hZ hown (host := "") (Or.inl (W 76 rfl)) Via.refl e0 F_component_a1 (g := (mkF m 1 #[.val (.ref a1)] [(.ref a1)])) rfl rfl (hb hby dx_prog_44_method_7_code_1)
  obtain ⟨fs, hr, hrun, hended, hW, hsame⟩ := X61.leave (v := some u) (fun h => by rw [Bd.returns] at h; cases h)
  refine ⟨_, _, pre0 _ ?_, hrun, hended, _, _, rfl, ?_, ⟨_, rfl⟩, hW, hsame.mono (Nat.le_of_ble_eq_true rfl) (Nat.le_of_ble_eq_true rfl)⟩
  · show Steps p.tables e below (s₁.setTop (mkF m 0 #[.val (.ref a1)] [])) _
    refine XS.aloadN X0.here hx rfl (hb hby dx_prog_44_method_7_code_0) rfl rfl ?_
    show Steps p.tables e below (s₁.setTop (mkF m 1 #[.val (.ref a1)] [(.ref a1)])) _
    refine st61 _ ?_
    show Steps p.tables e below (T61.setTop (mkF m 4 #[.val (.ref a1)] [u])) _
    exact retOut X61 hx Bd.returns (own_nar rfl ru) (Or.inr (Or.inr (Or.inr (Or.inr ⟨rfl, rfl, ru⟩)))) (hb hby dx_prog_44_method_7_code_4) hr
  · show QG_TailoringFinding_component Z G1 em k0 k1 k2 k3 k4 k5 a1 u h0 n0 _ T61.heap _
    rw [e61]
    exact ⟨rfl, N0, rfl⟩
theorem dx_prog_44_method_8_code_0 : decode prog_44_method_8_code 0 = .ok (.aload_n 0, 1) := by decide +kernel
theorem dx_prog_44_method_8_code_1 : decode prog_44_method_8_code 1 = .ok (.getfield 17, 3) := by decide +kernel
theorem dx_prog_44_method_8_code_4 : decode prog_44_method_8_code 4 = .ok (.areturn, 1) := by decide +kernel
def QG_TailoringFinding_parameter (Z : State) (G1 : Int32) (em : Addr) (k0 : Addr) (k1 : Addr) (k2 : Addr) (k3 : Addr) (k4 : Addr) (k5 : Addr) (a1 : Addr) (u : Value) (h0 : Heap) (n0 : Nat) (v : Option Value) (h : Heap) (L : List Loc) : Prop := v = some u ∧ Fr n0 L ∧ h = h0
theorem ef_prog_44_method_8_code_R (m : MethodId) (x0 : Addr) : entryFrame m #[(.ref x0)] 1 = mkF m 0 #[.val (.ref x0)] [] := by first | (simp [entryFrame, mkF, argsToLocals, Value.category]; done) | rfl
abbrev y9 : MethodName := ⟨"com/example/clauses_to_controls/clausestocontrols/service/TailoringFinding", "parameter", "()Ljava/lang/String;"⟩
set_option maxRecDepth 65536 in
set_option maxHeartbeats 40000000 in
theorem rmG_TailoringFinding_parameter (l : Launch) (Z : State) (a0 : Array Value) (G1 : Int32) (em : Addr) (k0 : Addr) (k1 : Addr) (k2 : Addr) (k3 : Addr) (k4 : Addr) (k5 : Addr) (hG : Glob Z a0 G1 em k0 k1 k2 k3 k4 k5) (ws : List Jvm.Cond) (a1 : Addr) (u : Value) (h0 : Heap) (n0 : Nat) (Z0 : n0 ≤ h0.size) (X00 : Old Z n0 h0) (F_parameter_a1 : Fld Z h0 a1 "com/example/clauses_to_controls/clausestocontrols/service/TailoringFinding" "parameter" "Ljava/lang/String;" u) (ru : u.isRef = true) :
    MetFree l y9 (head1 (Jvm.Cond.code y9 prog_44_method_8_code 1 (some (.object "java/lang/String")) :: ws) ({ frames := 0, cells := 0, slots := 0, locals := 0 } : Room)) (fun a U => a = #[(.ref a1)] ∧ Z.Warmed39 U.vm ∧ U.heap = h0) (fun _ _ _ _ _ => True) (fun _ U o U' => ∃ v L, o = .returned v ∧ QG_TailoringFinding_parameter Z G1 em k0 k1 k2 k3 k4 k5 a1 u h0 n0 v U'.heap L ∧ FrameEnd U o U' L ({ frames := 0, cells := 0, slots := 0, locals := 0 } : Room).cells ({ frames := 0, cells := 0, slots := 0, locals := 0 } : Room).slots) := by
  obtain ⟨hw, O_cs, P_cs, O_em, O_eem, O_vem, O_k0, O_k1, O_k2, O_k3, O_k4, O_k5⟩ := id hG
  have W : ∀ (i : Nat) {d : Jvm.Cond}, tables_1[i]? = some d → d.before a0 Z = true := fun i d h => hw d (List.mem_of_getElem? h)
  refine MetFree.of_bodySF (plainFor_of_name pn_com_example_clauses_to_controls_clausestocontrols_service_TailoringFinding) hisR ?_
  intro p e s m args below meth c s₁ Bd hml0 hP hK
  obtain ⟨rfl, hZ, hh⟩ := hP
  have hx := Bd.exec
  have hby := Bd.bytes
  have hml : c.maxLocals = 1 := hml0
  have hown : s.vm.findClass "com/example/clauses_to_controls/clausestocontrols/service/TailoringFinding" = some m.cls := findClass_of_methodNamed Bd.named
  have hnm := (name_of_methodNamed Bd.named Bd.method).1
  have X0 : Stand p l e ({ frames := 0, cells := 0, slots := 0, locals := 0 } : Room) s m #[(.ref a1)] below meth c s₁ [] 0 0 := Stand.of_body Bd
  have e0 : s₁.heap = h0 := by rw [← hh, Bd.state]; rfl
  have N0 := Fr.nil n0
  have pre0 : ∀ t, Steps p.tables e below (s₁.setTop (mkF m 0 #[.val (.ref a1)] [])) t → Steps p.tables e below (s₁.setTop (entryFrame m #[(.ref a1)] 1)) t := fun t kk_ => castTop (ef_prog_44_method_8_code_R m a1) kk_
  obtain ⟨T62, X62, e62, st62⟩ := getF X0 hx hZ hown (host := "") (Or.inl (W 78 rfl)) Via.refl e0 F_parameter_a1 (g := (mkF m 1 #[.val (.ref a1)] [(.ref a1)])) rfl rfl (hb hby dx_prog_44_method_8_code_1)
  obtain ⟨fs, hr, hrun, hended, hW, hsame⟩ := X62.leave (v := some u) (fun h => by rw [Bd.returns] at h; cases h)
  refine ⟨_, _, pre0 _ ?_, hrun, hended, _, _, rfl, ?_, ⟨_, rfl⟩, hW, hsame.mono (Nat.le_of_ble_eq_true rfl) (Nat.le_of_ble_eq_true rfl)⟩
  · show Steps p.tables e below (s₁.setTop (mkF m 0 #[.val (.ref a1)] [])) _
    refine XS.aloadN X0.here hx rfl (hb hby dx_prog_44_method_8_code_0) rfl rfl ?_
    show Steps p.tables e below (s₁.setTop (mkF m 1 #[.val (.ref a1)] [(.ref a1)])) _
    refine st62 _ ?_
    show Steps p.tables e below (T62.setTop (mkF m 4 #[.val (.ref a1)] [u])) _
    exact retOut X62 hx Bd.returns (own_nar rfl ru) (Or.inr (Or.inr (Or.inr (Or.inr ⟨rfl, rfl, ru⟩)))) (hb hby dx_prog_44_method_8_code_4) hr
  · show QG_TailoringFinding_parameter Z G1 em k0 k1 k2 k3 k4 k5 a1 u h0 n0 _ T62.heap _
    rw [e62]
    exact ⟨rfl, N0, rfl⟩
theorem dx_prog_44_method_2_code_0 : decode prog_44_method_2_code 0 = .ok (.new 8, 3) := by decide +kernel
theorem dx_prog_44_method_2_code_3 : decode prog_44_method_2_code 3 = .ok (.dup, 1) := by decide +kernel
theorem dx_prog_44_method_2_code_4 : decode prog_44_method_2_code 4 = .ok (.aload_n 0, 1) := by decide +kernel
theorem dx_prog_44_method_2_code_5 : decode prog_44_method_2_code 5 = .ok (.aload_n 1, 1) := by decide +kernel
theorem dx_prog_44_method_2_code_6 : decode prog_44_method_2_code 6 = .ok (.invokevirtual 26, 3) := by decide +kernel
theorem pd___Ljava_lang_String_ : parseMethodDescriptor "()Ljava/lang/String;" = some ⟨[], some (.object "java/lang/String")⟩ := by decide +kernel
theorem dx_prog_44_method_2_code_9 : decode prog_44_method_2_code 9 = .ok (.aload_n 1, 1) := by decide +kernel
theorem dx_prog_44_method_2_code_10 : decode prog_44_method_2_code 10 = .ok (.invokevirtual 31, 3) := by decide +kernel
theorem dx_prog_44_method_2_code_13 : decode prog_44_method_2_code 13 = .ok (.aconst_null, 1) := by decide +kernel
theorem dx_prog_44_method_2_code_14 : decode prog_44_method_2_code 14 = .ok (.aconst_null, 1) := by decide +kernel
theorem dx_prog_44_method_2_code_15 : decode prog_44_method_2_code 15 = .ok (.invokespecial 33, 3) := by decide +kernel
theorem pd__Lcom_example_clauses_to_controls_clausestocontrols_service_TailoringFinding_Kind_Ljava_lang_String_Ljava_lang_String_Ljava_lang_String_Ljava_lang_String__V : parseMethodDescriptor "(Lcom/example/clauses_to_controls/clausestocontrols/service/TailoringFinding$Kind;Ljava/lang/String;Ljava/lang/String;Ljava/lang/String;Ljava/lang/String;)V" = some ⟨[(.object "com/example/clauses_to_controls/clausestocontrols/service/TailoringFinding$Kind"), (.object "java/lang/String"), (.object "java/lang/String"), (.object "java/lang/String"), (.object "java/lang/String")], none⟩ := by decide +kernel
theorem dx_prog_44_method_2_code_18 : decode prog_44_method_2_code 18 = .ok (.areturn, 1) := by decide +kernel
def Qabout (Z : State) (G1 : Int32) (em : Addr) (k0 : Addr) (k1 : Addr) (k2 : Addr) (k3 : Addr) (k4 : Addr) (k5 : Addr) (k : Addr) (a2 : Addr) (c1 : Addr) (c2 : Addr) (h0 : Heap) (n0 : Nat) (v : Option Value) (h : Heap) (L : List Loc) : Prop := ∃ b : Addr, v = some (.ref b) ∧ Fr n0 L ∧ Keep h0 h [] ∧ h0.size ≤ b ∧ Exa Z h b "com/example/clauses_to_controls/clausestocontrols/service/TailoringFinding" ∧ Fld Z h b "com/example/clauses_to_controls/clausestocontrols/service/TailoringFinding" "kind" "Lcom/example/clauses_to_controls/clausestocontrols/service/TailoringFinding$Kind;" (.ref k) ∧ Fld Z h b "com/example/clauses_to_controls/clausestocontrols/service/TailoringFinding" "component" "Ljava/lang/String;" (.ref c1) ∧ Fld Z h b "com/example/clauses_to_controls/clausestocontrols/service/TailoringFinding" "parameter" "Ljava/lang/String;" (.ref c2) ∧ Fld Z h b "com/example/clauses_to_controls/clausestocontrols/service/TailoringFinding" "value" "Ljava/lang/String;" .null ∧ Fld Z h b "com/example/clauses_to_controls/clausestocontrols/service/TailoringFinding" "standardValue" "Ljava/lang/String;" .null
theorem ef_prog_44_method_2_code_RR (m : MethodId) (x0 : Addr) (x1 : Addr) : entryFrame m #[(.ref x0), (.ref x1)] 2 = mkF m 0 #[.val (.ref x0), .val (.ref x1)] [] := by first | (simp [entryFrame, mkF, argsToLocals, Value.category]; done) | rfl
abbrev y10 : MethodName := ⟨"com/example/clauses_to_controls/clausestocontrols/service/TailoringFinding", "about", "(Lcom/example/clauses_to_controls/clausestocontrols/service/TailoringFinding$Kind;Lcom/example/clauses_to_controls/clausestocontrols/model/TailoredValue;)Lcom/example/clauses_to_controls/clausestocontrols/service/TailoringFinding;"⟩
set_option maxRecDepth 65536 in
set_option maxHeartbeats 40000000 in
theorem rmabout (l : Launch) (Z : State) (a0 : Array Value) (G1 : Int32) (em : Addr) (k0 : Addr) (k1 : Addr) (k2 : Addr) (k3 : Addr) (k4 : Addr) (k5 : Addr) (hG : Glob Z a0 G1 em k0 k1 k2 k3 k4 k5) (ws : List Jvm.Cond) (k : Addr) (a2 : Addr) (c1 : Addr) (c2 : Addr) (h0 : Heap) (n0 : Nat) (Z0 : n0 ≤ h0.size) (X00 : Old Z n0 h0) (E_a2 : Exa Z h0 a2 "com/example/clauses_to_controls/clausestocontrols/model/TailoredValue") (F_component_a2 : Fld Z h0 a2 "com/example/clauses_to_controls/clausestocontrols/model/TailoredValue" "component" "Ljava/lang/String;" (.ref c1)) (F_parameter_a2 : Fld Z h0 a2 "com/example/clauses_to_controls/clausestocontrols/model/TailoredValue" "parameter" "Ljava/lang/String;" (.ref c2)) :
    MetFree l y10 (head1 (Jvm.Cond.code y10 prog_44_method_2_code 2 (some (.object "com/example/clauses_to_controls/clausestocontrols/service/TailoringFinding")) :: ws) ({ frames := 2, cells := 1, slots := 5, locals := 30 } : Room)) (fun a U => a = #[(.ref k), (.ref a2)] ∧ Z.Warmed39 U.vm ∧ U.heap = h0) (fun _ _ _ _ _ => True) (fun _ U o U' => ∃ v L, o = .returned v ∧ Qabout Z G1 em k0 k1 k2 k3 k4 k5 k a2 c1 c2 h0 n0 v U'.heap L ∧ FrameEnd U o U' L ({ frames := 2, cells := 1, slots := 5, locals := 30 } : Room).cells ({ frames := 2, cells := 1, slots := 5, locals := 30 } : Room).slots) := by
  obtain ⟨hw, O_cs, P_cs, O_em, O_eem, O_vem, O_k0, O_k1, O_k2, O_k3, O_k4, O_k5⟩ := id hG
  have W : ∀ (i : Nat) {d : Jvm.Cond}, tables_1[i]? = some d → d.before a0 Z = true := fun i d h => hw d (List.mem_of_getElem? h)
  refine MetFree.of_bodySF (plainFor_of_name pn_com_example_clauses_to_controls_clausestocontrols_service_TailoringFinding) hisR ?_
  intro p e s m args below meth c s₁ Bd hml0 hP hK
  obtain ⟨rfl, hZ, hh⟩ := hP
  have hx := Bd.exec
  have hby := Bd.bytes
  have hml : c.maxLocals = 2 := hml0
  have hown : s.vm.findClass "com/example/clauses_to_controls/clausestocontrols/service/TailoringFinding" = some m.cls := findClass_of_methodNamed Bd.named
  have hnm := (name_of_methodNamed Bd.named Bd.method).1
  have X0 : Stand p l e ({ frames := 2, cells := 1, slots := 5, locals := 30 } : Room) s m #[(.ref k), (.ref a2)] below meth c s₁ [] 0 0 := Stand.of_body Bd
  have e0 : s₁.heap = h0 := by rw [← hh, Bd.state]; rfl
  have N0 := Fr.nil n0
  have pre0 : ∀ t, Steps p.tables e below (s₁.setTop (mkF m 0 #[.val (.ref k), .val (.ref a2)] [])) t → Steps p.tables e below (s₁.setTop (entryFrame m #[(.ref k), (.ref a2)] 2)) t := fun t kk_ => castTop (ef_prog_44_method_2_code_RR m k a2) kk_
  obtain ⟨T63, h63, X63, e63, E63, A63, D63, -, st63⟩ := newO X0 hx hZ hown (W 58 rfl) (W 59 rfl) (W 56 rfl) e0 (g := (mkF m 0 #[.val (.ref k), .val (.ref a2)] [])) rfl (hb hby dx_prog_44_method_2_code_0) (by decide) (by decide)
  obtain ⟨b63, g63⟩ : ∃ z, z = h0.size := ⟨_, rfl⟩
  rw [← g63] at A63 D63 st63
  have Z64 : n0 ≤ h63.size := Nat.le_trans Z0 E63.1
  have K0_64 : Keep h0 h63 [] := (Keep.refl h0 []).ext E63
  have O64 : Old Z n0 h63 := X00.ext E63
  have lo_b63 : h0.size ≤ b63 := Nat.le_of_eq g63.symm
  have g_b63 : n0 ≤ b63 := Nat.le_trans Z0 lo_b63
  have l0_b63 : h0.size ≤ b63 := Nat.le_trans (Keep.refl h0 []).1 lo_b63
  have F_kind_b63 : Fld Z h63 b63 "com/example/clauses_to_controls/clausestocontrols/service/TailoringFinding" "kind" "Lcom/example/clauses_to_controls/clausestocontrols/service/TailoringFinding$Kind;" .null := D63 (Or.inr (W 75 rfl)) (ty := (.object "com/example/clauses_to_controls/clausestocontrols/service/TailoringFinding$Kind")) (by decide)
  have F_component_b63 : Fld Z h63 b63 "com/example/clauses_to_controls/clausestocontrols/service/TailoringFinding" "component" "Ljava/lang/String;" .null := D63 (Or.inr (W 77 rfl)) (ty := (.object "java/lang/String")) (by decide)
  have F_parameter_b63 : Fld Z h63 b63 "com/example/clauses_to_controls/clausestocontrols/service/TailoringFinding" "parameter" "Ljava/lang/String;" .null := D63 (Or.inr (W 79 rfl)) (ty := (.object "java/lang/String")) (by decide)
  have F_value_b63 : Fld Z h63 b63 "com/example/clauses_to_controls/clausestocontrols/service/TailoringFinding" "value" "Ljava/lang/String;" .null := D63 (Or.inr (W 81 rfl)) (ty := (.object "java/lang/String")) (by decide)
  have F_standardValue_b63 : Fld Z h63 b63 "com/example/clauses_to_controls/clausestocontrols/service/TailoringFinding" "standardValue" "Ljava/lang/String;" .null := D63 (Or.inr (W 83 rfl)) (ty := (.object "java/lang/String")) (by decide)
  have f66 := (F_component_a2.ext E63)
  have f67 := (E_a2.ext E63)
  obtain ⟨cq65, kq65, q65a, q65b, q65c⟩ := isOf hZ e63 f67
  -- pc 6: com/example/clauses_to_controls/clausestocontrols/model/TailoredValue.component
  obtain ⟨_, _, ⟨T65, L65, k65, n65⟩, -, X65, ⟨Lc65, hQ65, l65, y65, z65⟩, st65⟩ := X63.virtualBack hx (y := y5) (z := y5) hown (mvT hZ (W 60 rfl)) (mvT hZ (W 61 rfl)) (notFace_of_selects (args := #[]) (mvT hZ (W 63 rfl))) (mvT hZ (W 63 rfl)) (mvT hZ (W 62 rfl)) (by decide) (backOf (W := 3) (rmG_TailoredValue_component l Z a0 G1 em k0 k1 k2 k3 k4 k5 hG [] a2 (.ref c1) h63 n0 Z64 O64 f66 rfl) hZ (W 64 rfl) (W 43 rfl) (by decide) (by decide)) q65a q65c (g := (mkF m 6 #[.val (.ref k), .val (.ref a2)] [(.ref a2), (.ref k), (.ref b63), (.ref b63)])) rfl (by rw [hml]; rfl) (Steps.refl _) (argsL := []) (rest := [(.ref k), (.ref b63), (.ref b63)]) (lenOf pd___Ljava_lang_String_ rfl) rfl (by show 2 * 0 + _ ≤ _; exact Nat.le_of_eq rfl) (hb hby dx_prog_44_method_2_code_6) (fun _ _ => ⟨rfl, e63, (by decide : 1 + 0 ≤ _), (by decide : 5 + 0 ≤ _)⟩)
  dsimp only [Pt.U, Pt.locs, Pt.cells, Pt.slots] at X65 l65 y65 z65 st65 hQ65
  subst l65 y65 z65
  obtain ⟨rfl, N65q, eq65⟩ := hQ65
  have N65 := Fr.app N0 N65q
  have f69 := (F_parameter_a2.ext E63)
  obtain ⟨cq68, kq68, q68a, q68b, q68c⟩ := isOf hZ eq65 f67
  -- pc 10: com/example/clauses_to_controls/clausestocontrols/model/TailoredValue.parameter
  obtain ⟨_, _, ⟨T68, L68, k68, n68⟩, -, X68, ⟨Lc68, hQ68, l68, y68, z68⟩, st68⟩ := X65.virtualBack hx (y := y6) (z := y6) hown (mvT hZ (W 65 rfl)) (mvT hZ (W 66 rfl)) (notFace_of_selects (args := #[]) (mvT hZ (W 68 rfl))) (mvT hZ (W 68 rfl)) (mvT hZ (W 67 rfl)) (by decide) (backOf (W := 4) (rmG_TailoredValue_parameter l Z a0 G1 em k0 k1 k2 k3 k4 k5 hG [] a2 (.ref c2) h63 n0 Z64 O64 f69 rfl) hZ (W 69 rfl) (W 43 rfl) (by decide) (by decide)) q68a q68c (g := (mkF m 10 #[.val (.ref k), .val (.ref a2)] [(.ref a2), (.ref c1), (.ref k), (.ref b63), (.ref b63)])) rfl (by rw [hml]; rfl) (Steps.refl _) (argsL := []) (rest := [(.ref c1), (.ref k), (.ref b63), (.ref b63)]) (lenOf pd___Ljava_lang_String_ rfl) rfl (by show 2 * 0 + _ ≤ _; exact Nat.le_of_eq rfl) (hb hby dx_prog_44_method_2_code_10) (fun _ _ => ⟨rfl, eq65, (by decide : 1 + 0 ≤ _), (by decide : 5 + 0 ≤ _)⟩)
  dsimp only [Pt.U, Pt.locs, Pt.cells, Pt.slots] at X68 l68 y68 z68 st68 hQ68
  subst l68 y68 z68
  obtain ⟨rfl, N68q, eq68⟩ := hQ68
  have N68 := Fr.app N65 N68q
  -- pc 15: com/example/clauses_to_controls/clausestocontrols/service/TailoringFinding.<init>
  obtain ⟨_, _, ⟨T70, L70, k70, n70⟩, -, X70, ⟨Lc70, hQ70, l70, y70, z70⟩, st70⟩ := X68.specialBack hx (y := y4) rfl hown (mvT hZ (W 70 rfl)) (mvT hZ (W 71 rfl)) (mvT hZ (W 72 rfl)) (by decide) (backOf (W := 1) (rmtfi l Z a0 G1 em k0 k1 k2 k3 k4 k5 hG [] b63 (.ref k) (.ref c1) (.ref c2) .null .null h63 n0 Z64 O64 A63 g_b63 F_kind_b63 F_component_b63 F_parameter_b63 F_value_b63 F_standardValue_b63 rfl rfl rfl rfl rfl) hZ (W 72 rfl) (W 56 rfl) (by decide) (by decide)) (g := (mkF m 15 #[.val (.ref k), .val (.ref a2)] [.null, .null, (.ref c2), (.ref c1), (.ref k), (.ref b63), (.ref b63)])) rfl (by rw [hml]; rfl) (Steps.refl _) (a := b63) (argsL := [(.ref k), (.ref c1), (.ref c2), .null, .null]) (rest := [(.ref b63)]) (lenOf pd__Lcom_example_clauses_to_controls_clausestocontrols_service_TailoringFinding_Kind_Ljava_lang_String_Ljava_lang_String_Ljava_lang_String_Ljava_lang_String__V rfl) rfl (by show 2 * 0 + _ ≤ _; exact Nat.le_of_eq rfl) (hb hby dx_prog_44_method_2_code_15) (fun _ _ => ⟨rfl, eq68, (by decide : 1 + 0 ≤ _), (by decide : 5 + 0 ≤ _)⟩)
  dsimp only [Pt.U, Pt.locs, Pt.cells, Pt.slots] at X70 l70 y70 z70 st70 hQ70
  subst l70 y70 z70
  obtain ⟨rfl, N70q, K70, f70_0, f70_1, f70_2, f70_3, f70_4, f70_5⟩ := hQ70
  have N70 := Fr.app N68 N70q
  have Z71 : n0 ≤ T70.heap.size := Nat.le_trans Z64 K70.1
  have K0_71 : Keep h0 T70.heap [] := K0_64.trans K70 (allS (Or.inr l0_b63) all0)
  have O71 : Old Z n0 T70.heap := O64.keep K70 (allS g_b63 all0)
  obtain ⟨fs, hr, hrun, hended, hW, hsame⟩ := X70.leave (v := some (.ref b63)) (fun h => by rw [Bd.returns] at h; cases h)
  refine ⟨_, _, pre0 _ ?_, hrun, hended, _, _, rfl, ?_, ⟨_, rfl⟩, hW, hsame.mono (Nat.le_of_ble_eq_true rfl) (Nat.le_of_ble_eq_true rfl)⟩
  · show Steps p.tables e below (s₁.setTop (mkF m 0 #[.val (.ref k), .val (.ref a2)] [])) _
    refine st63 _ ?_
    show Steps p.tables e below (T63.setTop (mkF m 3 #[.val (.ref k), .val (.ref a2)] [(.ref b63)])) _
    refine XS.dup X63.here hx rfl (hb hby dx_prog_44_method_2_code_3) rfl rfl ?_
    show Steps p.tables e below (T63.setTop (mkF m 4 #[.val (.ref k), .val (.ref a2)] [(.ref b63), (.ref b63)])) _
    refine XS.aloadN X63.here hx rfl (hb hby dx_prog_44_method_2_code_4) rfl rfl ?_
    show Steps p.tables e below (T63.setTop (mkF m 5 #[.val (.ref k), .val (.ref a2)] [(.ref k), (.ref b63), (.ref b63)])) _
    refine XS.aloadN X63.here hx rfl (hb hby dx_prog_44_method_2_code_5) rfl rfl ?_
    show Steps p.tables e below (T63.setTop (mkF m 6 #[.val (.ref k), .val (.ref a2)] [(.ref a2), (.ref k), (.ref b63), (.ref b63)])) _
    refine st65.trans ?_
    show Steps p.tables e below (T65.setTop (mkF m 9 #[.val (.ref k), .val (.ref a2)] [(.ref c1), (.ref k), (.ref b63), (.ref b63)])) _
    refine XS.aloadN X65.here hx rfl (hb hby dx_prog_44_method_2_code_9) rfl rfl ?_
    show Steps p.tables e below (T65.setTop (mkF m 10 #[.val (.ref k), .val (.ref a2)] [(.ref a2), (.ref c1), (.ref k), (.ref b63), (.ref b63)])) _
    refine st68.trans ?_
    show Steps p.tables e below (T68.setTop (mkF m 13 #[.val (.ref k), .val (.ref a2)] [(.ref c2), (.ref c1), (.ref k), (.ref b63), (.ref b63)])) _
    refine XS.aconstNull X68.here hx rfl (hb hby dx_prog_44_method_2_code_13) ?_
    show Steps p.tables e below (T68.setTop (mkF m 14 #[.val (.ref k), .val (.ref a2)] [.null, (.ref c2), (.ref c1), (.ref k), (.ref b63), (.ref b63)])) _
    refine XS.aconstNull X68.here hx rfl (hb hby dx_prog_44_method_2_code_14) ?_
    show Steps p.tables e below (T68.setTop (mkF m 15 #[.val (.ref k), .val (.ref a2)] [.null, .null, (.ref c2), (.ref c1), (.ref k), (.ref b63), (.ref b63)])) _
    refine st70.trans ?_
    show Steps p.tables e below (T70.setTop (mkF m 18 #[.val (.ref k), .val (.ref a2)] [(.ref b63)])) _
    exact retOut X70 hx Bd.returns rfl (Or.inr (Or.inr (Or.inr (Or.inr ⟨rfl, rfl, rfl⟩)))) (hb hby dx_prog_44_method_2_code_18) hr
  · show Qabout Z G1 em k0 k1 k2 k3 k4 k5 k a2 c1 c2 h0 n0 _ T70.heap _
    exact ⟨b63, rfl, N70, K0_71, l0_b63, f70_0, f70_1, f70_2, f70_3, f70_4, f70_5⟩
theorem dx_jdk_42_method_66_code_0 : decode jdk_42_method_66_code 0 = .ok (.aload_n 0, 1) := by decide +kernel
theorem dx_jdk_42_method_66_code_1 : decode jdk_42_method_66_code 1 = .ok (.aload_n 1, 1) := by decide +kernel
theorem dx_jdk_42_method_66_code_2 : decode jdk_42_method_66_code 2 = .ok (.if_acmp .ne 5, 3) := by decide +kernel
theorem dx_jdk_42_method_66_code_5 : decode jdk_42_method_66_code 5 = .ok (.iconst 1, 1) := by decide +kernel
theorem dx_jdk_42_method_66_code_6 : decode jdk_42_method_66_code 6 = .ok (.ireturn, 1) := by decide +kernel
def Qeqs (Z : State) (G1 : Int32) (em : Addr) (k0 : Addr) (k1 : Addr) (k2 : Addr) (k3 : Addr) (k4 : Addr) (k5 : Addr) (a1 : Addr) (h0 : Heap) (n0 : Nat) (v : Option Value) (h : Heap) (L : List Loc) : Prop := v = some (.int (1 : Int32)) ∧ Fr n0 L ∧ h = h0
theorem ef_jdk_42_method_66_code_RR (m : MethodId) (x0 : Addr) (x1 : Addr) : entryFrame m #[(.ref x0), (.ref x1)] 3 = mkF m 0 #[.val (.ref x0), .val (.ref x1), .unset] [] := by first | (simp [entryFrame, mkF, argsToLocals, Value.category]; done) | rfl
abbrev y11 : MethodName := ⟨"java/lang/String", "equals", "(Ljava/lang/Object;)Z"⟩
theorem pn_java_lang_String : plainName "java/lang/String" = true := by first | (simp [plainName, overriddenIn]; done) | decide +kernel
set_option maxRecDepth 65536 in
set_option maxHeartbeats 40000000 in
theorem rmeqs (l : Launch) (Z : State) (a0 : Array Value) (G1 : Int32) (em : Addr) (k0 : Addr) (k1 : Addr) (k2 : Addr) (k3 : Addr) (k4 : Addr) (k5 : Addr) (hG : Glob Z a0 G1 em k0 k1 k2 k3 k4 k5) (ws : List Jvm.Cond) (a1 : Addr) (h0 : Heap) (n0 : Nat) (Z0 : n0 ≤ h0.size) (X00 : Old Z n0 h0) :
    MetFree l y11 (head1 (Jvm.Cond.code y11 jdk_42_method_66_code 3 (some .boolean) :: ws) ({ frames := 0, cells := 0, slots := 0, locals := 0 } : Room)) (fun a U => a = #[(.ref a1), (.ref a1)] ∧ Z.Warmed39 U.vm ∧ U.heap = h0) (fun _ _ _ _ _ => True) (fun _ U o U' => ∃ v L, o = .returned v ∧ Qeqs Z G1 em k0 k1 k2 k3 k4 k5 a1 h0 n0 v U'.heap L ∧ FrameEnd U o U' L ({ frames := 0, cells := 0, slots := 0, locals := 0 } : Room).cells ({ frames := 0, cells := 0, slots := 0, locals := 0 } : Room).slots) := by
  obtain ⟨hw, O_cs, P_cs, O_em, O_eem, O_vem, O_k0, O_k1, O_k2, O_k3, O_k4, O_k5⟩ := id hG
  have W : ∀ (i : Nat) {d : Jvm.Cond}, tables_1[i]? = some d → d.before a0 Z = true := fun i d h => hw d (List.mem_of_getElem? h)
  refine MetFree.of_bodySF (plainFor_of_name pn_java_lang_String) hisR ?_
  intro p e s m args below meth c s₁ Bd hml0 hP hK
  obtain ⟨rfl, hZ, hh⟩ := hP
  have hx := Bd.exec
  have hby := Bd.bytes
  have hml : c.maxLocals = 3 := hml0
  have hown : s.vm.findClass "java/lang/String" = some m.cls := findClass_of_methodNamed Bd.named
  have hnm := (name_of_methodNamed Bd.named Bd.method).1
  have X0 : Stand p l e ({ frames := 0, cells := 0, slots := 0, locals := 0 } : Room) s m #[(.ref a1), (.ref a1)] below meth c s₁ [] 0 0 := Stand.of_body Bd
  have e0 : s₁.heap = h0 := by rw [← hh, Bd.state]; rfl
  have N0 := Fr.nil n0
  have pre0 : ∀ t, Steps p.tables e below (s₁.setTop (mkF m 0 #[.val (.ref a1), .val (.ref a1), .unset] [])) t → Steps p.tables e below (s₁.setTop (entryFrame m #[(.ref a1), (.ref a1)] 3)) t := fun t kk_ => castTop (ef_jdk_42_method_66_code_RR m a1 a1) kk_
  obtain ⟨fs, hr, hrun, hended, hW, hsame⟩ := X0.leave (v := some (.int (1 : Int32))) (fun h => by rw [Bd.returns] at h; cases h)
  refine ⟨_, _, pre0 _ ?_, hrun, hended, _, _, rfl, ?_, ⟨_, rfl⟩, hW, hsame.mono (Nat.le_of_ble_eq_true rfl) (Nat.le_of_ble_eq_true rfl)⟩
  · show Steps p.tables e below (s₁.setTop (mkF m 0 #[.val (.ref a1), .val (.ref a1), .unset] [])) _
    refine XS.aloadN X0.here hx rfl (hb hby dx_jdk_42_method_66_code_0) rfl rfl ?_
    show Steps p.tables e below (s₁.setTop (mkF m 1 #[.val (.ref a1), .val (.ref a1), .unset] [(.ref a1)])) _
    refine XS.aloadN X0.here hx rfl (hb hby dx_jdk_42_method_66_code_1) rfl rfl ?_
    show Steps p.tables e below (s₁.setTop (mkF m 2 #[.val (.ref a1), .val (.ref a1), .unset] [(.ref a1), (.ref a1)])) _
    refine Jvm.RoadKit.acmp (g := (mkF m 2 #[.val (.ref a1), .val (.ref a1), .unset] [(.ref a1), (.ref a1)])) X0 hx rfl rfl rfl (pc0 := 2) (pc' := 5) (same := true) rfl (hb hby dx_jdk_42_method_66_code_2) rfl (decide_eq_true rfl) (by decide) (by decide) ?_
    show Steps p.tables e below (s₁.setTop (mkF m 5 #[.val (.ref a1), .val (.ref a1), .unset] [])) _
    refine XS.iconst X0.here hx rfl (hb hby dx_jdk_42_method_66_code_5) ?_
    show Steps p.tables e below (s₁.setTop (mkF m 6 #[.val (.ref a1), .val (.ref a1), .unset] [(.int (1 : Int32))])) _
    exact retN X0 hx (t := .boolean) Bd.returns (by simp) (hb hby dx_jdk_42_method_66_code_6) hr
  · show Qeqs Z G1 em k0 k1 k2 k3 k4 k5 a1 h0 n0 _ s₁.heap _
    rw [e0]
    exact ⟨rfl, N0, rfl⟩
theorem dx_jdk_32_method_4_code_0 : decode jdk_32_method_4_code 0 = .ok (.aload_n 0, 1) := by decide +kernel
theorem dx_jdk_32_method_4_code_1 : decode jdk_32_method_4_code 1 = .ok (.ifnonnull 9, 3) := by decide +kernel
theorem dx_jdk_32_method_4_code_4 : decode jdk_32_method_4_code 4 = .ok (.getstatic 1, 3) := by decide +kernel
theorem dx_jdk_32_method_4_code_7 : decode jdk_32_method_4_code 7 = .ok (.goto 11, 3) := by decide +kernel
theorem dx_jdk_32_method_4_code_18 : decode jdk_32_method_4_code 18 = .ok (.areturn, 1) := by decide +kernel
def Qofn (Z : State) (G1 : Int32) (em : Addr) (k0 : Addr) (k1 : Addr) (k2 : Addr) (k3 : Addr) (k4 : Addr) (k5 : Addr) (h0 : Heap) (n0 : Nat) (v : Option Value) (h : Heap) (L : List Loc) : Prop := v = some (.ref em) ∧ Fr n0 L ∧ h = h0
theorem ef_jdk_32_method_4_code_N (m : MethodId) : entryFrame m #[.null] 1 = mkF m 0 #[.val .null] [] := by first | (simp [entryFrame, mkF, argsToLocals, Value.category]; done) | rfl
abbrev y12 : MethodName := ⟨"java/util/Optional", "ofNullable", "(Ljava/lang/Object;)Ljava/util/Optional;"⟩
theorem pn_java_util_Optional : plainName "java/util/Optional" = true := by first | (simp [plainName, overriddenIn]; done) | decide +kernel
set_option maxRecDepth 65536 in
set_option maxHeartbeats 40000000 in
theorem rmofn (l : Launch) (Z : State) (a0 : Array Value) (G1 : Int32) (em : Addr) (k0 : Addr) (k1 : Addr) (k2 : Addr) (k3 : Addr) (k4 : Addr) (k5 : Addr) (hG : Glob Z a0 G1 em k0 k1 k2 k3 k4 k5) (ws : List Jvm.Cond) (h0 : Heap) (n0 : Nat) (Z0 : n0 ≤ h0.size) (X00 : Old Z n0 h0) :
    MetFree l y12 (head1 (Jvm.Cond.code y12 jdk_32_method_4_code 1 (some (.object "java/util/Optional")) :: ws) ({ frames := 0, cells := 0, slots := 0, locals := 0 } : Room)) (fun a U => a = #[.null] ∧ Z.Warmed39 U.vm ∧ U.heap = h0) (fun _ _ _ _ _ => True) (fun _ U o U' => ∃ v L, o = .returned v ∧ Qofn Z G1 em k0 k1 k2 k3 k4 k5 h0 n0 v U'.heap L ∧ FrameEnd U o U' L ({ frames := 0, cells := 0, slots := 0, locals := 0 } : Room).cells ({ frames := 0, cells := 0, slots := 0, locals := 0 } : Room).slots) := by
  obtain ⟨hw, O_cs, P_cs, O_em, O_eem, O_vem, O_k0, O_k1, O_k2, O_k3, O_k4, O_k5⟩ := id hG
  have W : ∀ (i : Nat) {d : Jvm.Cond}, tables_1[i]? = some d → d.before a0 Z = true := fun i d h => hw d (List.mem_of_getElem? h)
  refine MetFree.of_bodySF (plainFor_of_name pn_java_util_Optional) hisR ?_
  intro p e s m args below meth c s₁ Bd hml0 hP hK
  obtain ⟨rfl, hZ, hh⟩ := hP
  have hx := Bd.exec
  have hby := Bd.bytes
  have hml : c.maxLocals = 1 := hml0
  have hown : s.vm.findClass "java/util/Optional" = some m.cls := findClass_of_methodNamed Bd.named
  have hnm := (name_of_methodNamed Bd.named Bd.method).1
  have X0 : Stand p l e ({ frames := 0, cells := 0, slots := 0, locals := 0 } : Room) s m #[.null] below meth c s₁ [] 0 0 := Stand.of_body Bd
  have e0 : s₁.heap = h0 := by rw [← hh, Bd.state]; rfl
  have N0 := Fr.nil n0
  have pre0 : ∀ t, Steps p.tables e below (s₁.setTop (mkF m 0 #[.val .null] [])) t → Steps p.tables e below (s₁.setTop (entryFrame m #[.null] 1)) t := fun t kk_ => castTop (ef_jdk_32_method_4_code_N m) kk_
  obtain ⟨T72, X72, e72, st72⟩ := getS2 X0 hx hZ hown (host := "") (Or.inl (W 113 rfl)) Via.refl e0 (O_em.ext X00.2) (g := (mkF m 4 #[.val .null] [])) rfl (hb hby dx_jdk_32_method_4_code_4)
  obtain ⟨fs, hr, hrun, hended, hW, hsame⟩ := X72.leave (v := some (.ref em)) (fun h => by rw [Bd.returns] at h; cases h)
  refine ⟨_, _, pre0 _ ?_, hrun, hended, _, _, rfl, ?_, ⟨_, rfl⟩, hW, hsame.mono (Nat.le_of_ble_eq_true rfl) (Nat.le_of_ble_eq_true rfl)⟩
  · show Steps p.tables e below (s₁.setTop (mkF m 0 #[.val .null] [])) _
    refine XS.aloadN X0.here hx rfl (hb hby dx_jdk_32_method_4_code_0) rfl rfl ?_
    show Steps p.tables e below (s₁.setTop (mkF m 1 #[.val .null] [.null])) _
    refine XS.ifnonnullNo X0.here hx rfl (hb hby dx_jdk_32_method_4_code_1) rfl ?_
    show Steps p.tables e below (s₁.setTop (mkF m 4 #[.val .null] [])) _
    refine st72 _ ?_
    show Steps p.tables e below (T72.setTop (mkF m 7 #[.val .null] [(.ref em)])) _
    refine XS.goto X72.here hx rfl (pc0 := 7) (pc' := 18) rfl (hb hby dx_jdk_32_method_4_code_7) (by decide) (by decide) ?_
    show Steps p.tables e below (T72.setTop (mkF m 18 #[.val .null] [(.ref em)])) _
    exact retOut X72 hx Bd.returns rfl (Or.inr (Or.inr (Or.inr (Or.inr ⟨rfl, rfl, rfl⟩)))) (hb hby dx_jdk_32_method_4_code_18) hr
  · show Qofn Z G1 em k0 k1 k2 k3 k4 k5 h0 n0 _ T72.heap _
    rw [e72]
    exact ⟨rfl, N0, rfl⟩
theorem dx_jdk_32_method_6_code_0 : decode jdk_32_method_6_code 0 = .ok (.aload_n 0, 1) := by decide +kernel
theorem dx_jdk_32_method_6_code_1 : decode jdk_32_method_6_code 1 = .ok (.getfield 13, 3) := by decide +kernel
theorem dx_jdk_32_method_6_code_4 : decode jdk_32_method_6_code 4 = .ok (.ifnull 7, 3) := by decide +kernel
theorem dx_jdk_32_method_6_code_11 : decode jdk_32_method_6_code 11 = .ok (.iconst 0, 1) := by decide +kernel
theorem dx_jdk_32_method_6_code_12 : decode jdk_32_method_6_code 12 = .ok (.ireturn, 1) := by decide +kernel
def Qisp (Z : State) (G1 : Int32) (em : Addr) (k0 : Addr) (k1 : Addr) (k2 : Addr) (k3 : Addr) (k4 : Addr) (k5 : Addr) (h0 : Heap) (n0 : Nat) (v : Option Value) (h : Heap) (L : List Loc) : Prop := v = some (.int (0 : Int32)) ∧ Fr n0 L ∧ h = h0
theorem ef_jdk_32_method_6_code_R (m : MethodId) (x0 : Addr) : entryFrame m #[(.ref x0)] 1 = mkF m 0 #[.val (.ref x0)] [] := by first | (simp [entryFrame, mkF, argsToLocals, Value.category]; done) | rfl
abbrev y13 : MethodName := ⟨"java/util/Optional", "isPresent", "()Z"⟩
set_option maxRecDepth 65536 in
set_option maxHeartbeats 40000000 in
theorem rmisp (l : Launch) (Z : State) (a0 : Array Value) (G1 : Int32) (em : Addr) (k0 : Addr) (k1 : Addr) (k2 : Addr) (k3 : Addr) (k4 : Addr) (k5 : Addr) (hG : Glob Z a0 G1 em k0 k1 k2 k3 k4 k5) (ws : List Jvm.Cond) (h0 : Heap) (n0 : Nat) (Z0 : n0 ≤ h0.size) (X00 : Old Z n0 h0) :
    MetFree l y13 (head1 (Jvm.Cond.code y13 jdk_32_method_6_code 1 (some .boolean) :: ws) ({ frames := 0, cells := 0, slots := 0, locals := 0 } : Room)) (fun a U => a = #[(.ref em)] ∧ Z.Warmed39 U.vm ∧ U.heap = h0) (fun _ _ _ _ _ => True) (fun _ U o U' => ∃ v L, o = .returned v ∧ Qisp Z G1 em k0 k1 k2 k3 k4 k5 h0 n0 v U'.heap L ∧ FrameEnd U o U' L ({ frames := 0, cells := 0, slots := 0, locals := 0 } : Room).cells ({ frames := 0, cells := 0, slots := 0, locals := 0 } : Room).slots) := by
  obtain ⟨hw, O_cs, P_cs, O_em, O_eem, O_vem, O_k0, O_k1, O_k2, O_k3, O_k4, O_k5⟩ := id hG
  have W : ∀ (i : Nat) {d : Jvm.Cond}, tables_1[i]? = some d → d.before a0 Z = true := fun i d h => hw d (List.mem_of_getElem? h)
  refine MetFree.of_bodySF (plainFor_of_name pn_java_util_Optional) hisR ?_
  intro p e s m args below meth c s₁ Bd hml0 hP hK
  obtain ⟨rfl, hZ, hh⟩ := hP
  have hx := Bd.exec
  have hby := Bd.bytes
  have hml : c.maxLocals = 1 := hml0
  have hown : s.vm.findClass "java/util/Optional" = some m.cls := findClass_of_methodNamed Bd.named
  have hnm := (name_of_methodNamed Bd.named Bd.method).1
  have X0 : Stand p l e ({ frames := 0, cells := 0, slots := 0, locals := 0 } : Room) s m #[(.ref em)] below meth c s₁ [] 0 0 := Stand.of_body Bd
  have e0 : s₁.heap = h0 := by rw [← hh, Bd.state]; rfl
  have N0 := Fr.nil n0
  have pre0 : ∀ t, Steps p.tables e below (s₁.setTop (mkF m 0 #[.val (.ref em)] [])) t → Steps p.tables e below (s₁.setTop (entryFrame m #[(.ref em)] 1)) t := fun t kk_ => castTop (ef_jdk_32_method_6_code_R m em) kk_
  obtain ⟨T73, X73, e73, st73⟩ := getF X0 hx hZ hown (host := "") (Or.inl (W 119 rfl)) Via.refl e0 (O_vem.ext X00.2) (g := (mkF m 1 #[.val (.ref em)] [(.ref em)])) rfl rfl (hb hby dx_jdk_32_method_6_code_1)
  obtain ⟨fs, hr, hrun, hended, hW, hsame⟩ := X73.leave (v := some (.int (0 : Int32))) (fun h => by rw [Bd.returns] at h; cases h)
  refine ⟨_, _, pre0 _ ?_, hrun, hended, _, _, rfl, ?_, ⟨_, rfl⟩, hW, hsame.mono (Nat.le_of_ble_eq_true rfl) (Nat.le_of_ble_eq_true rfl)⟩
  · show Steps p.tables e below (s₁.setTop (mkF m 0 #[.val (.ref em)] [])) _
    refine XS.aloadN X0.here hx rfl (hb hby dx_jdk_32_method_6_code_0) rfl rfl ?_
    show Steps p.tables e below (s₁.setTop (mkF m 1 #[.val (.ref em)] [(.ref em)])) _
    refine st73 _ ?_
    show Steps p.tables e below (T73.setTop (mkF m 4 #[.val (.ref em)] [.null])) _
    refine XS.ifnullYes X73.here hx rfl (pc0 := 4) (pc' := 11) rfl (hb hby dx_jdk_32_method_6_code_4) rfl (by decide) (by decide) ?_
    show Steps p.tables e below (T73.setTop (mkF m 11 #[.val (.ref em)] [])) _
    refine XS.iconst X73.here hx rfl (hb hby dx_jdk_32_method_6_code_11) ?_
    show Steps p.tables e below (T73.setTop (mkF m 12 #[.val (.ref em)] [(.int (0 : Int32))])) _
    exact retN X73 hx (t := .boolean) Bd.returns (by simp) (hb hby dx_jdk_32_method_6_code_12) hr
  · show Qisp Z G1 em k0 k1 k2 k3 k4 k5 h0 n0 _ T73.heap _
    rw [e73]
    exact ⟨rfl, N0, rfl⟩
theorem dx_prog_44_method_9_code_0 : decode prog_44_method_9_code 0 = .ok (.aload_n 0, 1) := by decide +kernel
theorem dx_prog_44_method_9_code_1 : decode prog_44_method_9_code 1 = .ok (.getfield 20, 3) := by decide +kernel
theorem dx_prog_44_method_9_code_4 : decode prog_44_method_9_code 4 = .ok (.invokestatic 49, 3) := by decide +kernel
theorem pd__Ljava_lang_Object__Ljava_util_Optional_ : parseMethodDescriptor "(Ljava/lang/Object;)Ljava/util/Optional;" = some ⟨[(.object "java/lang/Object")], some (.object "java/util/Optional")⟩ := by decide +kernel
theorem dx_prog_44_method_9_code_7 : decode prog_44_method_9_code 7 = .ok (.areturn, 1) := by decide +kernel
def QG_value (Z : State) (G1 : Int32) (em : Addr) (k0 : Addr) (k1 : Addr) (k2 : Addr) (k3 : Addr) (k4 : Addr) (k5 : Addr) (a1 : Addr) (h0 : Heap) (n0 : Nat) (v : Option Value) (h : Heap) (L : List Loc) : Prop := v = some (.ref em) ∧ Fr n0 L ∧ h = h0
theorem ef_prog_44_method_9_code_R (m : MethodId) (x0 : Addr) : entryFrame m #[(.ref x0)] 1 = mkF m 0 #[.val (.ref x0)] [] := by first | (simp [entryFrame, mkF, argsToLocals, Value.category]; done) | rfl
abbrev y14 : MethodName := ⟨"com/example/clauses_to_controls/clausestocontrols/service/TailoringFinding", "value", "()Ljava/util/Optional;"⟩
set_option maxRecDepth 65536 in
set_option maxHeartbeats 40000000 in
theorem rmG_value (l : Launch) (Z : State) (a0 : Array Value) (G1 : Int32) (em : Addr) (k0 : Addr) (k1 : Addr) (k2 : Addr) (k3 : Addr) (k4 : Addr) (k5 : Addr) (hG : Glob Z a0 G1 em k0 k1 k2 k3 k4 k5) (ws : List Jvm.Cond) (a1 : Addr) (h0 : Heap) (n0 : Nat) (Z0 : n0 ≤ h0.size) (X00 : Old Z n0 h0) (F_value_a1 : Fld Z h0 a1 "com/example/clauses_to_controls/clausestocontrols/service/TailoringFinding" "value" "Ljava/lang/String;" .null) :
    MetFree l y14 (head1 (Jvm.Cond.code y14 prog_44_method_9_code 1 (some (.object "java/util/Optional")) :: ws) ({ frames := 1, cells := 0, slots := 0, locals := 12 } : Room)) (fun a U => a = #[(.ref a1)] ∧ Z.Warmed39 U.vm ∧ U.heap = h0) (fun _ _ _ _ _ => True) (fun _ U o U' => ∃ v L, o = .returned v ∧ QG_value Z G1 em k0 k1 k2 k3 k4 k5 a1 h0 n0 v U'.heap L ∧ FrameEnd U o U' L ({ frames := 1, cells := 0, slots := 0, locals := 12 } : Room).cells ({ frames := 1, cells := 0, slots := 0, locals := 12 } : Room).slots) := by
  obtain ⟨hw, O_cs, P_cs, O_em, O_eem, O_vem, O_k0, O_k1, O_k2, O_k3, O_k4, O_k5⟩ := id hG
  have W : ∀ (i : Nat) {d : Jvm.Cond}, tables_1[i]? = some d → d.before a0 Z = true := fun i d h => hw d (List.mem_of_getElem? h)
  refine MetFree.of_bodySF (plainFor_of_name pn_com_example_clauses_to_controls_clausestocontrols_service_TailoringFinding) hisR ?_
  intro p e s m args below meth c s₁ Bd hml0 hP hK
  obtain ⟨rfl, hZ, hh⟩ := hP
  have hx := Bd.exec
  have hby := Bd.bytes
  have hml : c.maxLocals = 1 := hml0
  have hown : s.vm.findClass "com/example/clauses_to_controls/clausestocontrols/service/TailoringFinding" = some m.cls := findClass_of_methodNamed Bd.named
  have hnm := (name_of_methodNamed Bd.named Bd.method).1
  have X0 : Stand p l e ({ frames := 1, cells := 0, slots := 0, locals := 12 } : Room) s m #[(.ref a1)] below meth c s₁ [] 0 0 := Stand.of_body Bd
  have e0 : s₁.heap = h0 := by rw [← hh, Bd.state]; rfl
  have N0 := Fr.nil n0
  have pre0 : ∀ t, Steps p.tables e below (s₁.setTop (mkF m 0 #[.val (.ref a1)] [])) t → Steps p.tables e below (s₁.setTop (entryFrame m #[(.ref a1)] 1)) t := fun t kk_ => castTop (ef_prog_44_method_9_code_R m a1) kk_
  obtain ⟨T74, X74, e74, st74⟩ := getF X0 hx hZ hown (host := "") (Or.inl (W 80 rfl)) Via.refl e0 F_value_a1 (g := (mkF m 1 #[.val (.ref a1)] [(.ref a1)])) rfl rfl (hb hby dx_prog_44_method_9_code_1)
  -- pc 4: java/util/Optional.ofNullable
  obtain ⟨_, _, ⟨T75, L75, k75, n75⟩, -, X75, ⟨Lc75, hQ75, l75, y75, z75⟩, st75⟩ := Jvm.LawKit.callS X74 hx (y := y12) hown (mvT hZ (W 109 rfl)) (mvT hZ (W 110 rfl)) (mvT hZ (W 111 rfl)) (mvT hZ (W 112 rfl)) (by decide) (backOf (W := 0) (rmofn l Z a0 G1 em k0 k1 k2 k3 k4 k5 hG [] h0 n0 Z0 X00) hZ (W 112 rfl) (W 111 rfl) (by decide) (by decide)) (g := (mkF m 4 #[.val (.ref a1)] [.null])) rfl (by rw [hml]; rfl) (argsL := [.null]) (rest := []) (lenOf pd__Ljava_lang_Object__Ljava_util_Optional_ rfl) rfl (by show 2 * 0 + _ ≤ _; exact Nat.le_of_eq rfl) (hb hby dx_prog_44_method_9_code_4) (fun _ _ => ⟨rfl, e74, (by decide : 0 + 0 ≤ _), (by decide : 0 + 0 ≤ _)⟩)
  dsimp only [Pt.U, Pt.locs, Pt.cells, Pt.slots] at X75 l75 y75 z75 st75 hQ75
  subst l75 y75 z75
  obtain ⟨rfl, N75q, eq75⟩ := hQ75
  have N75 := Fr.app N0 N75q
  obtain ⟨fs, hr, hrun, hended, hW, hsame⟩ := X75.leave (v := some (.ref em)) (fun h => by rw [Bd.returns] at h; cases h)
  refine ⟨_, _, pre0 _ ?_, hrun, hended, _, _, rfl, ?_, ⟨_, rfl⟩, hW, hsame.mono (Nat.le_of_ble_eq_true rfl) (Nat.le_of_ble_eq_true rfl)⟩
  · show Steps p.tables e below (s₁.setTop (mkF m 0 #[.val (.ref a1)] [])) _
    refine XS.aloadN X0.here hx rfl (hb hby dx_prog_44_method_9_code_0) rfl rfl ?_
    show Steps p.tables e below (s₁.setTop (mkF m 1 #[.val (.ref a1)] [(.ref a1)])) _
    refine st74 _ ?_
    show Steps p.tables e below (T74.setTop (mkF m 4 #[.val (.ref a1)] [.null])) _
    refine st75 _ ?_
    show Steps p.tables e below (T75.setTop (mkF m 7 #[.val (.ref a1)] [(.ref em)])) _
    exact retOut X75 hx Bd.returns rfl (Or.inr (Or.inr (Or.inr (Or.inr ⟨rfl, rfl, rfl⟩)))) (hb hby dx_prog_44_method_9_code_7) hr
  · show QG_value Z G1 em k0 k1 k2 k3 k4 k5 a1 h0 n0 _ T75.heap _
    rw [eq75]
    exact ⟨rfl, N75, rfl⟩
theorem dx_prog_44_method_10_code_0 : decode prog_44_method_10_code 0 = .ok (.aload_n 0, 1) := by decide +kernel
theorem dx_prog_44_method_10_code_1 : decode prog_44_method_10_code 1 = .ok (.getfield 23, 3) := by decide +kernel
theorem dx_prog_44_method_10_code_4 : decode prog_44_method_10_code 4 = .ok (.invokestatic 49, 3) := by decide +kernel
theorem dx_prog_44_method_10_code_7 : decode prog_44_method_10_code 7 = .ok (.areturn, 1) := by decide +kernel
def QG_standardValue (Z : State) (G1 : Int32) (em : Addr) (k0 : Addr) (k1 : Addr) (k2 : Addr) (k3 : Addr) (k4 : Addr) (k5 : Addr) (a1 : Addr) (h0 : Heap) (n0 : Nat) (v : Option Value) (h : Heap) (L : List Loc) : Prop := v = some (.ref em) ∧ Fr n0 L ∧ h = h0
theorem ef_prog_44_method_10_code_R (m : MethodId) (x0 : Addr) : entryFrame m #[(.ref x0)] 1 = mkF m 0 #[.val (.ref x0)] [] := by first | (simp [entryFrame, mkF, argsToLocals, Value.category]; done) | rfl
abbrev y15 : MethodName := ⟨"com/example/clauses_to_controls/clausestocontrols/service/TailoringFinding", "standardValue", "()Ljava/util/Optional;"⟩
set_option maxRecDepth 65536 in
set_option maxHeartbeats 40000000 in
theorem rmG_standardValue (l : Launch) (Z : State) (a0 : Array Value) (G1 : Int32) (em : Addr) (k0 : Addr) (k1 : Addr) (k2 : Addr) (k3 : Addr) (k4 : Addr) (k5 : Addr) (hG : Glob Z a0 G1 em k0 k1 k2 k3 k4 k5) (ws : List Jvm.Cond) (a1 : Addr) (h0 : Heap) (n0 : Nat) (Z0 : n0 ≤ h0.size) (X00 : Old Z n0 h0) (F_standardValue_a1 : Fld Z h0 a1 "com/example/clauses_to_controls/clausestocontrols/service/TailoringFinding" "standardValue" "Ljava/lang/String;" .null) :
    MetFree l y15 (head1 (Jvm.Cond.code y15 prog_44_method_10_code 1 (some (.object "java/util/Optional")) :: ws) ({ frames := 1, cells := 0, slots := 0, locals := 12 } : Room)) (fun a U => a = #[(.ref a1)] ∧ Z.Warmed39 U.vm ∧ U.heap = h0) (fun _ _ _ _ _ => True) (fun _ U o U' => ∃ v L, o = .returned v ∧ QG_standardValue Z G1 em k0 k1 k2 k3 k4 k5 a1 h0 n0 v U'.heap L ∧ FrameEnd U o U' L ({ frames := 1, cells := 0, slots := 0, locals := 12 } : Room).cells ({ frames := 1, cells := 0, slots := 0, locals := 12 } : Room).slots) := by
  obtain ⟨hw, O_cs, P_cs, O_em, O_eem, O_vem, O_k0, O_k1, O_k2, O_k3, O_k4, O_k5⟩ := id hG
  have W : ∀ (i : Nat) {d : Jvm.Cond}, tables_1[i]? = some d → d.before a0 Z = true := fun i d h => hw d (List.mem_of_getElem? h)
  refine MetFree.of_bodySF (plainFor_of_name pn_com_example_clauses_to_controls_clausestocontrols_service_TailoringFinding) hisR ?_
  intro p e s m args below meth c s₁ Bd hml0 hP hK
  obtain ⟨rfl, hZ, hh⟩ := hP
  have hx := Bd.exec
  have hby := Bd.bytes
  have hml : c.maxLocals = 1 := hml0
  have hown : s.vm.findClass "com/example/clauses_to_controls/clausestocontrols/service/TailoringFinding" = some m.cls := findClass_of_methodNamed Bd.named
  have hnm := (name_of_methodNamed Bd.named Bd.method).1
  have X0 : Stand p l e ({ frames := 1, cells := 0, slots := 0, locals := 12 } : Room) s m #[(.ref a1)] below meth c s₁ [] 0 0 := Stand.of_body Bd
  have e0 : s₁.heap = h0 := by rw [← hh, Bd.state]; rfl
  have N0 := Fr.nil n0
  have pre0 : ∀ t, Steps p.tables e below (s₁.setTop (mkF m 0 #[.val (.ref a1)] [])) t → Steps p.tables e below (s₁.setTop (entryFrame m #[(.ref a1)] 1)) t := fun t kk_ => castTop (ef_prog_44_method_10_code_R m a1) kk_
  obtain ⟨T76, X76, e76, st76⟩ := getF X0 hx hZ hown (host := "") (Or.inl (W 82 rfl)) Via.refl e0 F_standardValue_a1 (g := (mkF m 1 #[.val (.ref a1)] [(.ref a1)])) rfl rfl (hb hby dx_prog_44_method_10_code_1)
  -- pc 4: java/util/Optional.ofNullable
  obtain ⟨_, _, ⟨T77, L77, k77, n77⟩, -, X77, ⟨Lc77, hQ77, l77, y77, z77⟩, st77⟩ := Jvm.LawKit.callS X76 hx (y := y12) hown (mvT hZ (W 109 rfl)) (mvT hZ (W 110 rfl)) (mvT hZ (W 111 rfl)) (mvT hZ (W 112 rfl)) (by decide) (backOf (W := 0) (rmofn l Z a0 G1 em k0 k1 k2 k3 k4 k5 hG [] h0 n0 Z0 X00) hZ (W 112 rfl) (W 111 rfl) (by decide) (by decide)) (g := (mkF m 4 #[.val (.ref a1)] [.null])) rfl (by rw [hml]; rfl) (argsL := [.null]) (rest := []) (lenOf pd__Ljava_lang_Object__Ljava_util_Optional_ rfl) rfl (by show 2 * 0 + _ ≤ _; exact Nat.le_of_eq rfl) (hb hby dx_prog_44_method_10_code_4) (fun _ _ => ⟨rfl, e76, (by decide : 0 + 0 ≤ _), (by decide : 0 + 0 ≤ _)⟩)
  dsimp only [Pt.U, Pt.locs, Pt.cells, Pt.slots] at X77 l77 y77 z77 st77 hQ77
  subst l77 y77 z77
  obtain ⟨rfl, N77q, eq77⟩ := hQ77
  have N77 := Fr.app N0 N77q
  obtain ⟨fs, hr, hrun, hended, hW, hsame⟩ := X77.leave (v := some (.ref em)) (fun h => by rw [Bd.returns] at h; cases h)
  refine ⟨_, _, pre0 _ ?_, hrun, hended, _, _, rfl, ?_, ⟨_, rfl⟩, hW, hsame.mono (Nat.le_of_ble_eq_true rfl) (Nat.le_of_ble_eq_true rfl)⟩
  · show Steps p.tables e below (s₁.setTop (mkF m 0 #[.val (.ref a1)] [])) _
    refine XS.aloadN X0.here hx rfl (hb hby dx_prog_44_method_10_code_0) rfl rfl ?_
    show Steps p.tables e below (s₁.setTop (mkF m 1 #[.val (.ref a1)] [(.ref a1)])) _
    refine st76 _ ?_
    show Steps p.tables e below (T76.setTop (mkF m 4 #[.val (.ref a1)] [.null])) _
    refine st77 _ ?_
    show Steps p.tables e below (T77.setTop (mkF m 7 #[.val (.ref a1)] [(.ref em)])) _
    exact retOut X77 hx Bd.returns rfl (Or.inr (Or.inr (Or.inr (Or.inr ⟨rfl, rfl, rfl⟩)))) (hb hby dx_prog_44_method_10_code_7) hr
  · show QG_standardValue Z G1 em k0 k1 k2 k3 k4 k5 a1 h0 n0 _ T77.heap _
    rw [eq77]
    exact ⟨rfl, N77, rfl⟩
theorem pd__I_Lcom_example_clauses_to_controls_clausestocontrols_service_TailoringFinding_Kind_ : parseMethodDescriptor "(I)Lcom/example/clauses_to_controls/clausestocontrols/service/TailoringFinding$Kind;" = some ⟨[.int], some (.object "com/example/clauses_to_controls/clausestocontrols/service/TailoringFinding$Kind")⟩ := by decide +kernel
theorem pd__I_Ljava_lang_String_ : parseMethodDescriptor "(I)Ljava/lang/String;" = some ⟨[.int], some (.object "java/lang/String")⟩ := by decide +kernel
theorem pd__Ljava_lang_String_Ljava_lang_String_Ljava_lang_String__V : parseMethodDescriptor "(Ljava/lang/String;Ljava/lang/String;Ljava/lang/String;)V" = some ⟨[(.object "java/lang/String"), (.object "java/lang/String"), (.object "java/lang/String")], none⟩ := by decide +kernel
theorem pd__Lcom_example_clauses_to_controls_clausestocontrols_service_TailoringFinding_Kind_Lcom_example_clauses_to_controls_clausestocontrols_model_TailoredValue__Lcom_example_clauses_to_controls_clausestocontrols_service_TailoringFinding_ : parseMethodDescriptor "(Lcom/example/clauses_to_controls/clausestocontrols/service/TailoringFinding$Kind;Lcom/example/clauses_to_controls/clausestocontrols/model/TailoredValue;)Lcom/example/clauses_to_controls/clausestocontrols/service/TailoringFinding;" = some ⟨[(.object "com/example/clauses_to_controls/clausestocontrols/service/TailoringFinding$Kind"), (.object "com/example/clauses_to_controls/clausestocontrols/model/TailoredValue")], some (.object "com/example/clauses_to_controls/clausestocontrols/service/TailoringFinding")⟩ := by decide +kernel
theorem pd___Lcom_example_clauses_to_controls_clausestocontrols_service_TailoringFinding_Kind_ : parseMethodDescriptor "()Lcom/example/clauses_to_controls/clausestocontrols/service/TailoringFinding$Kind;" = some ⟨[], some (.object "com/example/clauses_to_controls/clausestocontrols/service/TailoringFinding$Kind")⟩ := by decide +kernel
theorem pd__Ljava_lang_Object__Z : parseMethodDescriptor "(Ljava/lang/Object;)Z" = some ⟨[(.object "java/lang/Object")], some .boolean⟩ := by decide +kernel
theorem pd___Ljava_util_Optional_ : parseMethodDescriptor "()Ljava/util/Optional;" = some ⟨[], some (.object "java/util/Optional")⟩ := by decide +kernel
theorem pd___Z : parseMethodDescriptor "()Z" = some ⟨[], some .boolean⟩ := by decide +kernel
def Q0 (Z : State) (G1 : Int32) (em : Addr) (k0 : Addr) (k1 : Addr) (k2 : Addr) (k3 : Addr) (k4 : Addr) (k5 : Addr) (p0 : Int32) (p1 : Int32) (p2 : Int32) (p3 : Int32) (h0 : Heap) (n0 : Nat) (v : Option Value) (h : Heap) (L : List Loc) : Prop := v = some (.int (1 : Int32)) ∧ Fr n0 L ∧ Keep h0 h []
theorem ef_code_IIII (m : MethodId) (x0 : Int32) (x1 : Int32) (x2 : Int32) (x3 : Int32) : entryFrame m #[(.int x0), (.int x1), (.int x2), (.int x3)] maxLocals = mkF m 0 #[.val (.int x0), .val (.int x1), .val (.int x2), .val (.int x3), .unset, .unset, .unset, .unset, .unset, .unset] [] := by first | (simp [entryFrame, mkF, argsToLocals, Value.category, maxLocals]; done) | rfl
set_option maxRecDepth 65536 in
set_option maxHeartbeats 40000000 in
theorem rm0 (l : Launch) (Z : State) (a0 : Array Value) (G1 : Int32) (em : Addr) (k0 : Addr) (k1 : Addr) (k2 : Addr) (k3 : Addr) (k4 : Addr) (k5 : Addr) (hG : Glob Z a0 G1 em k0 k1 k2 k3 k4 k5) (ws : List Jvm.Cond) (p0 : Int32) (p1 : Int32) (p2 : Int32) (p3 : Int32) (h0 : Heap) (n0 : Nat) (Z0 : n0 ≤ h0.size) (X00 : Old Z n0 h0) :
    MetFree l x (head1 (Jvm.Cond.code x code maxLocals ret :: ws) room_1) (fun a U => a = #[(.int p0), (.int p1), (.int p2), (.int p3)] ∧ Z.Warmed39 U.vm ∧ U.heap = h0) (fun _ _ _ _ _ => True) (fun _ U o U' => ∃ v L, o = .returned v ∧ Q0 Z G1 em k0 k1 k2 k3 k4 k5 p0 p1 p2 p3 h0 n0 v U'.heap L ∧ FrameEnd U o U' L room_1.cells room_1.slots) := by
  obtain ⟨hw, O_cs, P_cs, O_em, O_eem, O_vem, O_k0, O_k1, O_k2, O_k3, O_k4, O_k5⟩ := id hG
  have W : ∀ (i : Nat) {d : Jvm.Cond}, tables_1[i]? = some d → d.before a0 Z = true := fun i d h => hw d (List.mem_of_getElem? h)
  refine MetFree.of_bodySF (plainFor_of_name pn_com_example_clauses_to_controls_clausestocontrols_service_TailoringFindingAboutPinLaw) hisR ?_
  intro p e s m args below meth c s₁ Bd hml0 hP hK
  obtain ⟨rfl, hZ, hh⟩ := hP
  have hx := Bd.exec
  have hby := Bd.bytes
  have hml : c.maxLocals = 10 := hml0
  have hown : s.vm.findClass "com/example/clauses_to_controls/clausestocontrols/service/TailoringFindingAboutPinLaw" = some m.cls := findClass_of_methodNamed Bd.named
  have hnm := (name_of_methodNamed Bd.named Bd.method).1
  have X0 : Stand p l e room_1 s m #[(.int p0), (.int p1), (.int p2), (.int p3)] below meth c s₁ [] 0 0 := Stand.of_body Bd
  have e0 : s₁.heap = h0 := by rw [← hh, Bd.state]; rfl
  have N0 := Fr.nil n0
  have pre0 : ∀ t, Steps p.tables e below (s₁.setTop (mkF m 0 #[.val (.int p0), .val (.int p1), .val (.int p2), .val (.int p3), .unset, .unset, .unset, .unset, .unset, .unset] [])) t → Steps p.tables e below (s₁.setTop (entryFrame m #[(.int p0), (.int p1), (.int p2), (.int p3)] maxLocals)) t := fun t kk_ => castTop (ef_code_IIII m p0 p1 p2 p3) kk_
  -- pc 7: com/example/clauses_to_controls/clausestocontrols/service/TailoringFindingAboutPinLaw.kindOf
  obtain ⟨_, _, ⟨T78, L78, k78, n78⟩, -, X78, ⟨Lc78, hQ78, l78, y78, z78⟩, st78⟩ := Jvm.LawKit.callS X0 hx (y := y0) hown (mvT hZ (W 1 rfl)) (mvT hZ (W 2 rfl)) (mvT hZ (W 3 rfl)) (mvT hZ (W 4 rfl)) (by decide) (backOf (W := 0) (rmkof l Z a0 G1 em k0 k1 k2 k3 k4 k5 hG [] ((p0 &&& (2147483647 : Int32)) % (6 : Int32)) h0 n0 Z0 X00) hZ (W 4 rfl) (W 3 rfl) (by decide) (by decide)) (g := (mkF m 7 #[.val (.int p0), .val (.int p1), .val (.int p2), .val (.int p3), .unset, .unset, .unset, .unset, .unset, .unset] [(.int ((p0 &&& (2147483647 : Int32)) % (6 : Int32)))])) rfl (by rw [hml]; rfl) (argsL := [(.int ((p0 &&& (2147483647 : Int32)) % (6 : Int32)))]) (rest := []) (lenOf pd__I_Lcom_example_clauses_to_controls_clausestocontrols_service_TailoringFinding_Kind_ rfl) rfl (by show 2 * 0 + _ ≤ _; exact Nat.le_of_eq rfl) (hb hby at_7) (fun _ _ => ⟨rfl, e0, (by decide : 0 + 0 ≤ _), (by decide : 0 + 0 ≤ _)⟩)
  dsimp only [Pt.U, Pt.locs, Pt.cells, Pt.slots] at X78 l78 y78 z78 st78 hQ78
  subst l78 y78 z78
  obtain ⟨k_78, rfl, N78q, eq78⟩ := hQ78
  have N78 := Fr.app N0 N78q
  -- pc 13: com/example/clauses_to_controls/clausestocontrols/service/TailoringFindingAboutPinLaw.draw
  obtain ⟨_, _, ⟨T79, L79, k79, n79⟩, -, X79, ⟨Lc79, hQ79, l79, y79, z79⟩, st79⟩ := Jvm.LawKit.callS X78 hx (y := y2) hown (mvT hZ (W 8 rfl)) (mvT hZ (W 9 rfl)) (mvT hZ (W 3 rfl)) (mvT hZ (W 10 rfl)) (by decide) (backOf (W := 0) (rmdraw l Z a0 G1 em k0 k1 k2 k3 k4 k5 hG [] p1 h0 n0 Z0 X00) hZ (W 10 rfl) (W 3 rfl) (by decide) (by decide)) (g := (mkF m 13 #[.val (.int p0), .val (.int p1), .val (.int p2), .val (.int p3), .val (.ref k_78), .unset, .unset, .unset, .unset, .unset] [(.int p1)])) rfl (by rw [hml]; rfl) (argsL := [(.int p1)]) (rest := []) (lenOf pd__I_Ljava_lang_String_ rfl) rfl (by show 2 * 0 + _ ≤ _; exact Nat.le_of_eq rfl) (hb hby at_13) (fun _ _ => ⟨rfl, eq78, (by decide : 0 + 3 ≤ _), (by decide : 0 + 8 ≤ _)⟩)
  dsimp only [Pt.U, Pt.locs, Pt.cells, Pt.slots] at X79 l79 y79 z79 st79 hQ79
  subst l79 y79 z79
  obtain ⟨b_79, rfl, N79q, K79, f79_0, f79_1⟩ := hQ79
  have N79 := Fr.app N78 N79q
  have Z80 : n0 ≤ T79.heap.size := Nat.le_trans Z0 K79.1
  have K0_80 : Keep h0 T79.heap [] := (Keep.refl h0 []).trans K79 all0
  have O80 : Old Z n0 T79.heap := X00.keep K79 all0
  have lo_b_79 : h0.size ≤ b_79 := f79_0
  have g_b_79 : n0 ≤ b_79 := Nat.le_trans Z0 lo_b_79
  have l0_b_79 : h0.size ≤ b_79 := Nat.le_trans (Keep.refl h0 []).1 lo_b_79
  -- pc 19: com/example/clauses_to_controls/clausestocontrols/service/TailoringFindingAboutPinLaw.draw
  obtain ⟨_, _, ⟨T81, L81, k81, n81⟩, -, X81, ⟨Lc81, hQ81, l81, y81, z81⟩, st81⟩ := Jvm.LawKit.callS X79 hx (y := y2) hown (mvT hZ (W 8 rfl)) (mvT hZ (W 9 rfl)) (mvT hZ (W 3 rfl)) (mvT hZ (W 10 rfl)) (by decide) (backOf (W := 0) (rmdraw l Z a0 G1 em k0 k1 k2 k3 k4 k5 hG [] p2 T79.heap n0 Z80 O80) hZ (W 10 rfl) (W 3 rfl) (by decide) (by decide)) (g := (mkF m 19 #[.val (.int p0), .val (.int p1), .val (.int p2), .val (.int p3), .val (.ref k_78), .val (.ref b_79), .unset, .unset, .unset, .unset] [(.int p2)])) rfl (by rw [hml]; rfl) (argsL := [(.int p2)]) (rest := []) (lenOf pd__I_Ljava_lang_String_ rfl) rfl (by show 2 * 0 + _ ≤ _; exact Nat.le_of_eq rfl) (hb hby at_19) (fun _ _ => ⟨rfl, rfl, (by decide : 3 + 3 ≤ _), (by decide : 8 + 8 ≤ _)⟩)
  dsimp only [Pt.U, Pt.locs, Pt.cells, Pt.slots] at X81 l81 y81 z81 st81 hQ81
  subst l81 y81 z81
  obtain ⟨b_81, rfl, N81q, K81, f81_0, f81_1⟩ := hQ81
  have N81 := Fr.app N79 N81q
  have Z82 : n0 ≤ T81.heap.size := Nat.le_trans Z80 K81.1
  have K0_82 : Keep h0 T81.heap [] := K0_80.trans K81 all0
  have O82 : Old Z n0 T81.heap := O80.keep K81 all0
  have lo_b_81 : T79.heap.size ≤ b_81 := f81_0
  have g_b_81 : n0 ≤ b_81 := Nat.le_trans Z80 lo_b_81
  have l0_b_81 : h0.size ≤ b_81 := Nat.le_trans K0_80.1 lo_b_81
  -- pc 25: com/example/clauses_to_controls/clausestocontrols/service/TailoringFindingAboutPinLaw.draw
  obtain ⟨_, _, ⟨T83, L83, k83, n83⟩, -, X83, ⟨Lc83, hQ83, l83, y83, z83⟩, st83⟩ := Jvm.LawKit.callS X81 hx (y := y2) hown (mvT hZ (W 8 rfl)) (mvT hZ (W 9 rfl)) (mvT hZ (W 3 rfl)) (mvT hZ (W 10 rfl)) (by decide) (backOf (W := 0) (rmdraw l Z a0 G1 em k0 k1 k2 k3 k4 k5 hG [] p3 T81.heap n0 Z82 O82) hZ (W 10 rfl) (W 3 rfl) (by decide) (by decide)) (g := (mkF m 25 #[.val (.int p0), .val (.int p1), .val (.int p2), .val (.int p3), .val (.ref k_78), .val (.ref b_79), .val (.ref b_81), .unset, .unset, .unset] [(.int p3)])) rfl (by rw [hml]; rfl) (argsL := [(.int p3)]) (rest := []) (lenOf pd__I_Ljava_lang_String_ rfl) rfl (by show 2 * 0 + _ ≤ _; exact Nat.le_of_eq rfl) (hb hby at_25) (fun _ _ => ⟨rfl, rfl, (by decide : 6 + 3 ≤ _), (by decide : 16 + 8 ≤ _)⟩)
  dsimp only [Pt.U, Pt.locs, Pt.cells, Pt.slots] at X83 l83 y83 z83 st83 hQ83
  subst l83 y83 z83
  obtain ⟨b_83, rfl, N83q, K83, f83_0, f83_1⟩ := hQ83
  have N83 := Fr.app N81 N83q
  have Z84 : n0 ≤ T83.heap.size := Nat.le_trans Z82 K83.1
  have K0_84 : Keep h0 T83.heap [] := K0_82.trans K83 all0
  have O84 : Old Z n0 T83.heap := O82.keep K83 all0
  have lo_b_83 : T81.heap.size ≤ b_83 := f83_0
  have g_b_83 : n0 ≤ b_83 := Nat.le_trans Z82 lo_b_83
  have l0_b_83 : h0.size ≤ b_83 := Nat.le_trans K0_82.1 lo_b_83
  obtain ⟨T85, h85, X85, e85, E85, A85, D85, -, st85⟩ := newO X83 hx hZ hown (W 41 rfl) (W 42 rfl) (W 43 rfl) rfl (g := (mkF m 30 #[.val (.int p0), .val (.int p1), .val (.int p2), .val (.int p3), .val (.ref k_78), .val (.ref b_79), .val (.ref b_81), .val (.ref b_83), .unset, .unset] [])) rfl (hb hby at_30) (by decide) (by decide)
  obtain ⟨b85, g85⟩ : ∃ z, z = T83.heap.size := ⟨_, rfl⟩
  rw [← g85] at A85 D85 st85
  have Z86 : n0 ≤ h85.size := Nat.le_trans Z84 E85.1
  have K0_86 : Keep h0 h85 [] := K0_84.ext E85
  have O86 : Old Z n0 h85 := O84.ext E85
  have lo_b85 : T83.heap.size ≤ b85 := Nat.le_of_eq g85.symm
  have g_b85 : n0 ≤ b85 := Nat.le_trans Z84 lo_b85
  have l0_b85 : h0.size ≤ b85 := Nat.le_trans K0_84.1 lo_b85
  have F_component_b85 : Fld Z h85 b85 "com/example/clauses_to_controls/clausestocontrols/model/TailoredValue" "component" "Ljava/lang/String;" .null := D85 (Or.inr (W 49 rfl)) (ty := (.object "java/lang/String")) (by decide)
  have F_parameter_b85 : Fld Z h85 b85 "com/example/clauses_to_controls/clausestocontrols/model/TailoredValue" "parameter" "Ljava/lang/String;" .null := D85 (Or.inr (W 51 rfl)) (ty := (.object "java/lang/String")) (by decide)
  have F_value_b85 : Fld Z h85 b85 "com/example/clauses_to_controls/clausestocontrols/model/TailoredValue" "value" "Ljava/lang/String;" .null := D85 (Or.inr (W 53 rfl)) (ty := (.object "java/lang/String")) (by decide)
  -- pc 40: com/example/clauses_to_controls/clausestocontrols/model/TailoredValue.<init>
  obtain ⟨_, _, ⟨T87, L87, k87, n87⟩, -, X87, ⟨Lc87, hQ87, l87, y87, z87⟩, st87⟩ := X85.specialBack hx (y := y3) rfl hown (mvT hZ (W 44 rfl)) (mvT hZ (W 45 rfl)) (mvT hZ (W 46 rfl)) (by decide) (backOf (W := 1) (rmtvi l Z a0 G1 em k0 k1 k2 k3 k4 k5 hG [] b85 (.ref b_79) (.ref b_81) (.ref b_83) h85 n0 Z86 O86 A85 g_b85 F_component_b85 F_parameter_b85 F_value_b85 rfl rfl rfl) hZ (W 46 rfl) (W 43 rfl) (by decide) (by decide)) (g := (mkF m 40 #[.val (.int p0), .val (.int p1), .val (.int p2), .val (.int p3), .val (.ref k_78), .val (.ref b_79), .val (.ref b_81), .val (.ref b_83), .unset, .unset] [(.ref b_83), (.ref b_81), (.ref b_79), (.ref b85), (.ref b85)])) rfl (by rw [hml]; rfl) (Steps.refl _) (a := b85) (argsL := [(.ref b_79), (.ref b_81), (.ref b_83)]) (rest := [(.ref b85)]) (lenOf pd__Ljava_lang_String_Ljava_lang_String_Ljava_lang_String__V rfl) rfl (by show 2 * 0 + _ ≤ _; exact Nat.le_of_eq rfl) (hb hby at_40) (fun _ _ => ⟨rfl, e85, (by decide : 10 + 0 ≤ _), (by decide : 27 + 0 ≤ _)⟩)
  dsimp only [Pt.U, Pt.locs, Pt.cells, Pt.slots] at X87 l87 y87 z87 st87 hQ87
  subst l87 y87 z87
  obtain ⟨rfl, N87q, K87, f87_0, f87_1, f87_2, f87_3⟩ := hQ87
  have N87 := Fr.app N83 N87q
  have Z88 : n0 ≤ T87.heap.size := Nat.le_trans Z86 K87.1
  have K0_88 : Keep h0 T87.heap [] := K0_86.trans K87 (allS (Or.inr l0_b85) all0)
  have O88 : Old Z n0 T87.heap := O86.keep K87 (allS g_b85 all0)
  -- pc 49: com/example/clauses_to_controls/clausestocontrols/service/TailoringFinding.about
  obtain ⟨_, _, ⟨T89, L89, k89, n89⟩, -, X89, ⟨Lc89, hQ89, l89, y89, z89⟩, st89⟩ := Jvm.LawKit.callS X87 hx (y := y10) hown (mvT hZ (W 54 rfl)) (mvT hZ (W 55 rfl)) (mvT hZ (W 56 rfl)) (mvT hZ (W 57 rfl)) (by decide) (backOf (W := 0) (rmabout l Z a0 G1 em k0 k1 k2 k3 k4 k5 hG [] k_78 b85 b_79 b_81 T87.heap n0 Z88 O88 f87_0 f87_1 f87_2) hZ (W 57 rfl) (W 56 rfl) (by decide) (by decide)) (g := (mkF m 49 #[.val (.int p0), .val (.int p1), .val (.int p2), .val (.int p3), .val (.ref k_78), .val (.ref b_79), .val (.ref b_81), .val (.ref b_83), .val (.ref b85), .unset] [(.ref b85), (.ref k_78)])) rfl (by rw [hml]; rfl) (argsL := [(.ref k_78), (.ref b85)]) (rest := []) (lenOf pd__Lcom_example_clauses_to_controls_clausestocontrols_service_TailoringFinding_Kind_Lcom_example_clauses_to_controls_clausestocontrols_model_TailoredValue__Lcom_example_clauses_to_controls_clausestocontrols_service_TailoringFinding_ rfl) rfl (by show 2 * 0 + _ ≤ _; exact Nat.le_of_eq rfl) (hb hby at_49) (fun _ _ => ⟨rfl, rfl, (by decide : 10 + 1 ≤ _), (by decide : 27 + 5 ≤ _)⟩)
  dsimp only [Pt.U, Pt.locs, Pt.cells, Pt.slots] at X89 l89 y89 z89 st89 hQ89
  subst l89 y89 z89
  obtain ⟨b_89, rfl, N89q, K89, f89_0, f89_1, f89_2, f89_3, f89_4, f89_5, f89_6⟩ := hQ89
  have N89 := Fr.app N87 N89q
  have Z90 : n0 ≤ T89.heap.size := Nat.le_trans Z88 K89.1
  have K0_90 : Keep h0 T89.heap [] := K0_88.trans K89 all0
  have O90 : Old Z n0 T89.heap := O88.keep K89 all0
  have lo_b_89 : T87.heap.size ≤ b_89 := f89_0
  have g_b_89 : n0 ≤ b_89 := Nat.le_trans Z88 lo_b_89
  have l0_b_89 : h0.size ≤ b_89 := Nat.le_trans K0_88.1 lo_b_89
  obtain ⟨cq91, kq91, q91a, q91b, q91c⟩ := isOf hZ rfl f89_1
  -- pc 56: com/example/clauses_to_controls/clausestocontrols/service/TailoringFinding.kind
  obtain ⟨_, _, ⟨T91, L91, k91, n91⟩, -, X91, ⟨Lc91, hQ91, l91, y91, z91⟩, st91⟩ := X89.virtualBack hx (y := y7) (z := y7) hown (mvT hZ (W 84 rfl)) (mvT hZ (W 85 rfl)) (notFace_of_selects (args := #[]) (mvT hZ (W 87 rfl))) (mvT hZ (W 87 rfl)) (mvT hZ (W 86 rfl)) (by decide) (backOf (W := 0) (rmG_TailoringFinding_kind l Z a0 G1 em k0 k1 k2 k3 k4 k5 hG [] b_89 (.ref k_78) T89.heap n0 Z90 O90 f89_2 rfl) hZ (W 88 rfl) (W 56 rfl) (by decide) (by decide)) q91a q91c (g := (mkF m 56 #[.val (.int p0), .val (.int p1), .val (.int p2), .val (.int p3), .val (.ref k_78), .val (.ref b_79), .val (.ref b_81), .val (.ref b_83), .val (.ref b85), .val (.ref b_89)] [(.ref b_89)])) rfl (by rw [hml]; rfl) (Steps.refl _) (argsL := []) (rest := []) (lenOf pd___Lcom_example_clauses_to_controls_clausestocontrols_service_TailoringFinding_Kind_ rfl) rfl (by show 2 * 0 + _ ≤ _; exact Nat.le_of_eq rfl) (hb hby at_56) (fun _ _ => ⟨rfl, rfl, (by decide : 11 + 0 ≤ _), (by decide : 32 + 0 ≤ _)⟩)
  dsimp only [Pt.U, Pt.locs, Pt.cells, Pt.slots] at X91 l91 y91 z91 st91 hQ91
  subst l91 y91 z91
  obtain ⟨rfl, N91q, eq91⟩ := hQ91
  have N91 := Fr.app N89 N91q
  obtain ⟨cq92, kq92, q92a, q92b, q92c⟩ := isOf hZ eq91 f89_1
  -- pc 66: com/example/clauses_to_controls/clausestocontrols/service/TailoringFinding.component
  obtain ⟨_, _, ⟨T92, L92, k92, n92⟩, -, X92, ⟨Lc92, hQ92, l92, y92, z92⟩, st92⟩ := X91.virtualBack hx (y := y8) (z := y8) hown (mvT hZ (W 89 rfl)) (mvT hZ (W 90 rfl)) (notFace_of_selects (args := #[]) (mvT hZ (W 92 rfl))) (mvT hZ (W 92 rfl)) (mvT hZ (W 91 rfl)) (by decide) (backOf (W := 0) (rmG_TailoringFinding_component l Z a0 G1 em k0 k1 k2 k3 k4 k5 hG [] b_89 (.ref b_79) T89.heap n0 Z90 O90 f89_3 rfl) hZ (W 93 rfl) (W 56 rfl) (by decide) (by decide)) q92a q92c (g := (mkF m 66 #[.val (.int p0), .val (.int p1), .val (.int p2), .val (.int p3), .val (.ref k_78), .val (.ref b_79), .val (.ref b_81), .val (.ref b_83), .val (.ref b85), .val (.ref b_89)] [(.ref b_89)])) rfl (by rw [hml]; rfl) (Steps.refl _) (argsL := []) (rest := []) (lenOf pd___Ljava_lang_String_ rfl) rfl (by show 2 * 0 + _ ≤ _; exact Nat.le_of_eq rfl) (hb hby at_66) (fun _ _ => ⟨rfl, eq91, (by decide : 11 + 0 ≤ _), (by decide : 32 + 0 ≤ _)⟩)
  dsimp only [Pt.U, Pt.locs, Pt.cells, Pt.slots] at X92 l92 y92 z92 st92 hQ92
  subst l92 y92 z92
  obtain ⟨rfl, N92q, eq92⟩ := hQ92
  have N92 := Fr.app N91 N92q
  have f94 := (((((f79_1.keep K81).keep K83).ext E85).keep K87).keep K89)
  obtain ⟨cq93, kq93, q93a, q93b, q93c⟩ := isOf hZ eq92 f94
  -- pc 71: java/lang/String.equals
  obtain ⟨_, _, ⟨T93, L93, k93, n93⟩, -, X93, ⟨Lc93, hQ93, l93, y93, z93⟩, st93⟩ := X92.virtualBack hx (y := y11) (z := y11) hown (mvT hZ (W 94 rfl)) (mvT hZ (W 95 rfl)) (notFace_of_selects (args := #[]) (mvT hZ (W 97 rfl))) (mvT hZ (W 97 rfl)) (mvT hZ (W 96 rfl)) (by decide) (backOf (W := 0) (rmeqs l Z a0 G1 em k0 k1 k2 k3 k4 k5 hG [] b_79 T89.heap n0 Z90 O90) hZ (W 98 rfl) (W 14 rfl) (by decide) (by decide)) q93a q93c (g := (mkF m 71 #[.val (.int p0), .val (.int p1), .val (.int p2), .val (.int p3), .val (.ref k_78), .val (.ref b_79), .val (.ref b_81), .val (.ref b_83), .val (.ref b85), .val (.ref b_89)] [(.ref b_79), (.ref b_79)])) rfl (by rw [hml]; rfl) (Steps.refl _) (argsL := [(.ref b_79)]) (rest := []) (lenOf pd__Ljava_lang_Object__Z rfl) rfl (by show 2 * 0 + _ ≤ _; exact Nat.le_of_eq rfl) (hb hby at_71) (fun _ _ => ⟨rfl, eq92, (by decide : 11 + 0 ≤ _), (by decide : 32 + 0 ≤ _)⟩)
  dsimp only [Pt.U, Pt.locs, Pt.cells, Pt.slots] at X93 l93 y93 z93 st93 hQ93
  subst l93 y93 z93
  obtain ⟨rfl, N93q, eq93⟩ := hQ93
  have N93 := Fr.app N92 N93q
  obtain ⟨cq95, kq95, q95a, q95b, q95c⟩ := isOf hZ eq93 f89_1
  -- pc 79: com/example/clauses_to_controls/clausestocontrols/service/TailoringFinding.parameter
  obtain ⟨_, _, ⟨T95, L95, k95, n95⟩, -, X95, ⟨Lc95, hQ95, l95, y95, z95⟩, st95⟩ := X93.virtualBack hx (y := y9) (z := y9) hown (mvT hZ (W 99 rfl)) (mvT hZ (W 100 rfl)) (notFace_of_selects (args := #[]) (mvT hZ (W 102 rfl))) (mvT hZ (W 102 rfl)) (mvT hZ (W 101 rfl)) (by decide) (backOf (W := 0) (rmG_TailoringFinding_parameter l Z a0 G1 em k0 k1 k2 k3 k4 k5 hG [] b_89 (.ref b_81) T89.heap n0 Z90 O90 f89_4 rfl) hZ (W 103 rfl) (W 56 rfl) (by decide) (by decide)) q95a q95c (g := (mkF m 79 #[.val (.int p0), .val (.int p1), .val (.int p2), .val (.int p3), .val (.ref k_78), .val (.ref b_79), .val (.ref b_81), .val (.ref b_83), .val (.ref b85), .val (.ref b_89)] [(.ref b_89)])) rfl (by rw [hml]; rfl) (Steps.refl _) (argsL := []) (rest := []) (lenOf pd___Ljava_lang_String_ rfl) rfl (by show 2 * 0 + _ ≤ _; exact Nat.le_of_eq rfl) (hb hby at_79) (fun _ _ => ⟨rfl, eq93, (by decide : 11 + 0 ≤ _), (by decide : 32 + 0 ≤ _)⟩)
  dsimp only [Pt.U, Pt.locs, Pt.cells, Pt.slots] at X95 l95 y95 z95 st95 hQ95
  subst l95 y95 z95
  obtain ⟨rfl, N95q, eq95⟩ := hQ95
  have N95 := Fr.app N93 N95q
  have f97 := ((((f81_1.keep K83).ext E85).keep K87).keep K89)
  obtain ⟨cq96, kq96, q96a, q96b, q96c⟩ := isOf hZ eq95 f97
  -- pc 84: java/lang/String.equals
  obtain ⟨_, _, ⟨T96, L96, k96, n96⟩, -, X96, ⟨Lc96, hQ96, l96, y96, z96⟩, st96⟩ := X95.virtualBack hx (y := y11) (z := y11) hown (mvT hZ (W 94 rfl)) (mvT hZ (W 95 rfl)) (notFace_of_selects (args := #[]) (mvT hZ (W 97 rfl))) (mvT hZ (W 97 rfl)) (mvT hZ (W 96 rfl)) (by decide) (backOf (W := 0) (rmeqs l Z a0 G1 em k0 k1 k2 k3 k4 k5 hG [] b_81 T89.heap n0 Z90 O90) hZ (W 98 rfl) (W 14 rfl) (by decide) (by decide)) q96a q96c (g := (mkF m 84 #[.val (.int p0), .val (.int p1), .val (.int p2), .val (.int p3), .val (.ref k_78), .val (.ref b_79), .val (.ref b_81), .val (.ref b_83), .val (.ref b85), .val (.ref b_89)] [(.ref b_81), (.ref b_81)])) rfl (by rw [hml]; rfl) (Steps.refl _) (argsL := [(.ref b_81)]) (rest := []) (lenOf pd__Ljava_lang_Object__Z rfl) rfl (by show 2 * 0 + _ ≤ _; exact Nat.le_of_eq rfl) (hb hby at_84) (fun _ _ => ⟨rfl, eq95, (by decide : 11 + 0 ≤ _), (by decide : 32 + 0 ≤ _)⟩)
  dsimp only [Pt.U, Pt.locs, Pt.cells, Pt.slots] at X96 l96 y96 z96 st96 hQ96
  subst l96 y96 z96
  obtain ⟨rfl, N96q, eq96⟩ := hQ96
  have N96 := Fr.app N95 N96q
  obtain ⟨cq98, kq98, q98a, q98b, q98c⟩ := isOf hZ eq96 f89_1
  -- pc 92: com/example/clauses_to_controls/clausestocontrols/service/TailoringFinding.value
  obtain ⟨_, _, ⟨T98, L98, k98, n98⟩, -, X98, ⟨Lc98, hQ98, l98, y98, z98⟩, st98⟩ := X96.virtualBack hx (y := y14) (z := y14) hown (mvT hZ (W 104 rfl)) (mvT hZ (W 105 rfl)) (notFace_of_selects (args := #[]) (mvT hZ (W 107 rfl))) (mvT hZ (W 107 rfl)) (mvT hZ (W 106 rfl)) (by decide) (backOf (W := 0) (rmG_value l Z a0 G1 em k0 k1 k2 k3 k4 k5 hG [] b_89 T89.heap n0 Z90 O90 f89_5) hZ (W 108 rfl) (W 56 rfl) (by decide) (by decide)) q98a q98c (g := (mkF m 92 #[.val (.int p0), .val (.int p1), .val (.int p2), .val (.int p3), .val (.ref k_78), .val (.ref b_79), .val (.ref b_81), .val (.ref b_83), .val (.ref b85), .val (.ref b_89)] [(.ref b_89)])) rfl (by rw [hml]; rfl) (Steps.refl _) (argsL := []) (rest := []) (lenOf pd___Ljava_util_Optional_ rfl) rfl (by show 2 * 0 + _ ≤ _; exact Nat.le_of_eq rfl) (hb hby at_92) (fun _ _ => ⟨rfl, eq96, (by decide : 11 + 0 ≤ _), (by decide : 32 + 0 ≤ _)⟩)
  dsimp only [Pt.U, Pt.locs, Pt.cells, Pt.slots] at X98 l98 y98 z98 st98 hQ98
  subst l98 y98 z98
  obtain ⟨rfl, N98q, eq98⟩ := hQ98
  have N98 := Fr.app N96 N98q
  obtain ⟨cq99, kq99, q99a, q99b, q99c⟩ := isOf hZ eq98 (O_eem.ext O90.2)
  -- pc 95: java/util/Optional.isPresent
  obtain ⟨_, _, ⟨T99, L99, k99, n99⟩, -, X99, ⟨Lc99, hQ99, l99, y99, z99⟩, st99⟩ := X98.virtualBack hx (y := y13) (z := y13) hown (mvT hZ (W 114 rfl)) (mvT hZ (W 115 rfl)) (notFace_of_selects (args := #[]) (mvT hZ (W 117 rfl))) (mvT hZ (W 117 rfl)) (mvT hZ (W 116 rfl)) (by decide) (backOf (W := 0) (rmisp l Z a0 G1 em k0 k1 k2 k3 k4 k5 hG [] T89.heap n0 Z90 O90) hZ (W 118 rfl) (W 111 rfl) (by decide) (by decide)) q99a q99c (g := (mkF m 95 #[.val (.int p0), .val (.int p1), .val (.int p2), .val (.int p3), .val (.ref k_78), .val (.ref b_79), .val (.ref b_81), .val (.ref b_83), .val (.ref b85), .val (.ref b_89)] [(.ref em)])) rfl (by rw [hml]; rfl) (Steps.refl _) (argsL := []) (rest := []) (lenOf pd___Z rfl) rfl (by show 2 * 0 + _ ≤ _; exact Nat.le_of_eq rfl) (hb hby at_95) (fun _ _ => ⟨rfl, eq98, (by decide : 11 + 0 ≤ _), (by decide : 32 + 0 ≤ _)⟩)
  dsimp only [Pt.U, Pt.locs, Pt.cells, Pt.slots] at X99 l99 y99 z99 st99 hQ99
  subst l99 y99 z99
  obtain ⟨rfl, N99q, eq99⟩ := hQ99
  have N99 := Fr.app N98 N99q
  obtain ⟨cq100, kq100, q100a, q100b, q100c⟩ := isOf hZ eq99 f89_1
  -- pc 103: com/example/clauses_to_controls/clausestocontrols/service/TailoringFinding.standardValue
  obtain ⟨_, _, ⟨T100, L100, k100, n100⟩, -, X100, ⟨Lc100, hQ100, l100, y100, z100⟩, st100⟩ := X99.virtualBack hx (y := y15) (z := y15) hown (mvT hZ (W 121 rfl)) (mvT hZ (W 122 rfl)) (notFace_of_selects (args := #[]) (mvT hZ (W 124 rfl))) (mvT hZ (W 124 rfl)) (mvT hZ (W 123 rfl)) (by decide) (backOf (W := 0) (rmG_standardValue l Z a0 G1 em k0 k1 k2 k3 k4 k5 hG [] b_89 T89.heap n0 Z90 O90 f89_6) hZ (W 125 rfl) (W 56 rfl) (by decide) (by decide)) q100a q100c (g := (mkF m 103 #[.val (.int p0), .val (.int p1), .val (.int p2), .val (.int p3), .val (.ref k_78), .val (.ref b_79), .val (.ref b_81), .val (.ref b_83), .val (.ref b85), .val (.ref b_89)] [(.ref b_89)])) rfl (by rw [hml]; rfl) (Steps.refl _) (argsL := []) (rest := []) (lenOf pd___Ljava_util_Optional_ rfl) rfl (by show 2 * 0 + _ ≤ _; exact Nat.le_of_eq rfl) (hb hby at_103) (fun _ _ => ⟨rfl, eq99, (by decide : 11 + 0 ≤ _), (by decide : 32 + 0 ≤ _)⟩)
  dsimp only [Pt.U, Pt.locs, Pt.cells, Pt.slots] at X100 l100 y100 z100 st100 hQ100
  subst l100 y100 z100
  obtain ⟨rfl, N100q, eq100⟩ := hQ100
  have N100 := Fr.app N99 N100q
  obtain ⟨cq101, kq101, q101a, q101b, q101c⟩ := isOf hZ eq100 (O_eem.ext O90.2)
  -- pc 106: java/util/Optional.isPresent
  obtain ⟨_, _, ⟨T101, L101, k101, n101⟩, -, X101, ⟨Lc101, hQ101, l101, y101, z101⟩, st101⟩ := X100.virtualBack hx (y := y13) (z := y13) hown (mvT hZ (W 114 rfl)) (mvT hZ (W 115 rfl)) (notFace_of_selects (args := #[]) (mvT hZ (W 117 rfl))) (mvT hZ (W 117 rfl)) (mvT hZ (W 116 rfl)) (by decide) (backOf (W := 0) (rmisp l Z a0 G1 em k0 k1 k2 k3 k4 k5 hG [] T89.heap n0 Z90 O90) hZ (W 118 rfl) (W 111 rfl) (by decide) (by decide)) q101a q101c (g := (mkF m 106 #[.val (.int p0), .val (.int p1), .val (.int p2), .val (.int p3), .val (.ref k_78), .val (.ref b_79), .val (.ref b_81), .val (.ref b_83), .val (.ref b85), .val (.ref b_89)] [(.ref em)])) rfl (by rw [hml]; rfl) (Steps.refl _) (argsL := []) (rest := []) (lenOf pd___Z rfl) rfl (by show 2 * 0 + _ ≤ _; exact Nat.le_of_eq rfl) (hb hby at_106) (fun _ _ => ⟨rfl, eq100, (by decide : 11 + 0 ≤ _), (by decide : 32 + 0 ≤ _)⟩)
  dsimp only [Pt.U, Pt.locs, Pt.cells, Pt.slots] at X101 l101 y101 z101 st101 hQ101
  subst l101 y101 z101
  obtain ⟨rfl, N101q, eq101⟩ := hQ101
  have N101 := Fr.app N100 N101q
  obtain ⟨fs, hr, hrun, hended, hW, hsame⟩ := X101.leave (v := some (.int (1 : Int32))) (fun h => by rw [Bd.returns] at h; cases h)
  refine ⟨_, _, pre0 _ ?_, hrun, hended, _, _, rfl, ?_, ⟨_, rfl⟩, hW, hsame.mono (Nat.le_of_ble_eq_true rfl) (Nat.le_of_ble_eq_true rfl)⟩
  · show Steps p.tables e below (s₁.setTop (mkF m 0 #[.val (.int p0), .val (.int p1), .val (.int p2), .val (.int p3), .unset, .unset, .unset, .unset, .unset, .unset] [])) _
    refine XS.iloadN X0.here hx rfl (hb hby at_0) rfl ?_
    show Steps p.tables e below (s₁.setTop (mkF m 1 #[.val (.int p0), .val (.int p1), .val (.int p2), .val (.int p3), .unset, .unset, .unset, .unset, .unset, .unset] [(.int p0)])) _
    refine X0.ldcInt hx hown (mvT hZ (W 0 rfl)) (g := (mkF m 1 #[.val (.int p0), .val (.int p1), .val (.int p2), .val (.int p3), .unset, .unset, .unset, .unset, .unset, .unset] [(.int p0)])) rfl (hb hby at_1) _ ?_
    show Steps p.tables e below (s₁.setTop (mkF m 3 #[.val (.int p0), .val (.int p1), .val (.int p2), .val (.int p3), .unset, .unset, .unset, .unset, .unset, .unset] [(.int (2147483647 : Int32)), (.int p0)])) _
    refine XS.iand X0.here hx rfl (hb hby at_3) rfl ?_
    show Steps p.tables e below (s₁.setTop (mkF m 4 #[.val (.int p0), .val (.int p1), .val (.int p2), .val (.int p3), .unset, .unset, .unset, .unset, .unset, .unset] [(.int (p0 &&& (2147483647 : Int32)))])) _
    refine XS.bipush X0.here hx rfl (hb hby at_4) ?_
    show Steps p.tables e below (s₁.setTop (mkF m 6 #[.val (.int p0), .val (.int p1), .val (.int p2), .val (.int p3), .unset, .unset, .unset, .unset, .unset, .unset] [(.int (6 : Int32)), (.int (p0 &&& (2147483647 : Int32)))])) _
    refine iremM (g := (mkF m 6 #[.val (.int p0), .val (.int p1), .val (.int p2), .val (.int p3), .unset, .unset, .unset, .unset, .unset, .unset] [(.int (6 : Int32)), (.int (p0 &&& (2147483647 : Int32)))])) X0 hx rfl (hb hby at_6) rfl (by decide) ?_
    show Steps p.tables e below (s₁.setTop (mkF m 7 #[.val (.int p0), .val (.int p1), .val (.int p2), .val (.int p3), .unset, .unset, .unset, .unset, .unset, .unset] [(.int ((p0 &&& (2147483647 : Int32)) % (6 : Int32)))])) _
    refine st78 _ ?_
    show Steps p.tables e below (T78.setTop (mkF m 10 #[.val (.int p0), .val (.int p1), .val (.int p2), .val (.int p3), .unset, .unset, .unset, .unset, .unset, .unset] [(.ref k_78)])) _
    refine XS.astore X78.here hx rfl (hb hby at_10) rfl rfl (l' := #[.val (.int p0), .val (.int p1), .val (.int p2), .val (.int p3), .val (.ref k_78), .unset, .unset, .unset, .unset, .unset]) rfl ?_
    show Steps p.tables e below (T78.setTop (mkF m 12 #[.val (.int p0), .val (.int p1), .val (.int p2), .val (.int p3), .val (.ref k_78), .unset, .unset, .unset, .unset, .unset] [])) _
    refine XS.iloadN X78.here hx rfl (hb hby at_12) rfl ?_
    show Steps p.tables e below (T78.setTop (mkF m 13 #[.val (.int p0), .val (.int p1), .val (.int p2), .val (.int p3), .val (.ref k_78), .unset, .unset, .unset, .unset, .unset] [(.int p1)])) _
    refine st79 _ ?_
    show Steps p.tables e below (T79.setTop (mkF m 16 #[.val (.int p0), .val (.int p1), .val (.int p2), .val (.int p3), .val (.ref k_78), .unset, .unset, .unset, .unset, .unset] [(.ref b_79)])) _
    refine XS.astore X79.here hx rfl (hb hby at_16) rfl rfl (l' := #[.val (.int p0), .val (.int p1), .val (.int p2), .val (.int p3), .val (.ref k_78), .val (.ref b_79), .unset, .unset, .unset, .unset]) rfl ?_
    show Steps p.tables e below (T79.setTop (mkF m 18 #[.val (.int p0), .val (.int p1), .val (.int p2), .val (.int p3), .val (.ref k_78), .val (.ref b_79), .unset, .unset, .unset, .unset] [])) _
    refine XS.iloadN X79.here hx rfl (hb hby at_18) rfl ?_
    show Steps p.tables e below (T79.setTop (mkF m 19 #[.val (.int p0), .val (.int p1), .val (.int p2), .val (.int p3), .val (.ref k_78), .val (.ref b_79), .unset, .unset, .unset, .unset] [(.int p2)])) _
    refine st81 _ ?_
    show Steps p.tables e below (T81.setTop (mkF m 22 #[.val (.int p0), .val (.int p1), .val (.int p2), .val (.int p3), .val (.ref k_78), .val (.ref b_79), .unset, .unset, .unset, .unset] [(.ref b_81)])) _
    refine XS.astore X81.here hx rfl (hb hby at_22) rfl rfl (l' := #[.val (.int p0), .val (.int p1), .val (.int p2), .val (.int p3), .val (.ref k_78), .val (.ref b_79), .val (.ref b_81), .unset, .unset, .unset]) rfl ?_
    show Steps p.tables e below (T81.setTop (mkF m 24 #[.val (.int p0), .val (.int p1), .val (.int p2), .val (.int p3), .val (.ref k_78), .val (.ref b_79), .val (.ref b_81), .unset, .unset, .unset] [])) _
    refine XS.iloadN X81.here hx rfl (hb hby at_24) rfl ?_
    show Steps p.tables e below (T81.setTop (mkF m 25 #[.val (.int p0), .val (.int p1), .val (.int p2), .val (.int p3), .val (.ref k_78), .val (.ref b_79), .val (.ref b_81), .unset, .unset, .unset] [(.int p3)])) _
    refine st83 _ ?_
    show Steps p.tables e below (T83.setTop (mkF m 28 #[.val (.int p0), .val (.int p1), .val (.int p2), .val (.int p3), .val (.ref k_78), .val (.ref b_79), .val (.ref b_81), .unset, .unset, .unset] [(.ref b_83)])) _
    refine XS.astore X83.here hx rfl (hb hby at_28) rfl rfl (l' := #[.val (.int p0), .val (.int p1), .val (.int p2), .val (.int p3), .val (.ref k_78), .val (.ref b_79), .val (.ref b_81), .val (.ref b_83), .unset, .unset]) rfl ?_
    show Steps p.tables e below (T83.setTop (mkF m 30 #[.val (.int p0), .val (.int p1), .val (.int p2), .val (.int p3), .val (.ref k_78), .val (.ref b_79), .val (.ref b_81), .val (.ref b_83), .unset, .unset] [])) _
    refine st85 _ ?_
    show Steps p.tables e below (T85.setTop (mkF m 33 #[.val (.int p0), .val (.int p1), .val (.int p2), .val (.int p3), .val (.ref k_78), .val (.ref b_79), .val (.ref b_81), .val (.ref b_83), .unset, .unset] [(.ref b85)])) _
    refine XS.dup X85.here hx rfl (hb hby at_33) rfl rfl ?_
    show Steps p.tables e below (T85.setTop (mkF m 34 #[.val (.int p0), .val (.int p1), .val (.int p2), .val (.int p3), .val (.ref k_78), .val (.ref b_79), .val (.ref b_81), .val (.ref b_83), .unset, .unset] [(.ref b85), (.ref b85)])) _
    refine XS.aload X85.here hx rfl (hb hby at_34) rfl rfl ?_
    show Steps p.tables e below (T85.setTop (mkF m 36 #[.val (.int p0), .val (.int p1), .val (.int p2), .val (.int p3), .val (.ref k_78), .val (.ref b_79), .val (.ref b_81), .val (.ref b_83), .unset, .unset] [(.ref b_79), (.ref b85), (.ref b85)])) _
    refine XS.aload X85.here hx rfl (hb hby at_36) rfl rfl ?_
    show Steps p.tables e below (T85.setTop (mkF m 38 #[.val (.int p0), .val (.int p1), .val (.int p2), .val (.int p3), .val (.ref k_78), .val (.ref b_79), .val (.ref b_81), .val (.ref b_83), .unset, .unset] [(.ref b_81), (.ref b_79), (.ref b85), (.ref b85)])) _
    refine XS.aload X85.here hx rfl (hb hby at_38) rfl rfl ?_
    show Steps p.tables e below (T85.setTop (mkF m 40 #[.val (.int p0), .val (.int p1), .val (.int p2), .val (.int p3), .val (.ref k_78), .val (.ref b_79), .val (.ref b_81), .val (.ref b_83), .unset, .unset] [(.ref b_83), (.ref b_81), (.ref b_79), (.ref b85), (.ref b85)])) _
    refine st87.trans ?_
    show Steps p.tables e below (T87.setTop (mkF m 43 #[.val (.int p0), .val (.int p1), .val (.int p2), .val (.int p3), .val (.ref k_78), .val (.ref b_79), .val (.ref b_81), .val (.ref b_83), .unset, .unset] [(.ref b85)])) _
    refine XS.astore X87.here hx rfl (hb hby at_43) rfl rfl (l' := #[.val (.int p0), .val (.int p1), .val (.int p2), .val (.int p3), .val (.ref k_78), .val (.ref b_79), .val (.ref b_81), .val (.ref b_83), .val (.ref b85), .unset]) rfl ?_
    show Steps p.tables e below (T87.setTop (mkF m 45 #[.val (.int p0), .val (.int p1), .val (.int p2), .val (.int p3), .val (.ref k_78), .val (.ref b_79), .val (.ref b_81), .val (.ref b_83), .val (.ref b85), .unset] [])) _
    refine XS.aload X87.here hx rfl (hb hby at_45) rfl rfl ?_
    show Steps p.tables e below (T87.setTop (mkF m 47 #[.val (.int p0), .val (.int p1), .val (.int p2), .val (.int p3), .val (.ref k_78), .val (.ref b_79), .val (.ref b_81), .val (.ref b_83), .val (.ref b85), .unset] [(.ref k_78)])) _
    refine XS.aload X87.here hx rfl (hb hby at_47) rfl rfl ?_
    show Steps p.tables e below (T87.setTop (mkF m 49 #[.val (.int p0), .val (.int p1), .val (.int p2), .val (.int p3), .val (.ref k_78), .val (.ref b_79), .val (.ref b_81), .val (.ref b_83), .val (.ref b85), .unset] [(.ref b85), (.ref k_78)])) _
    refine st89 _ ?_
    show Steps p.tables e below (T89.setTop (mkF m 52 #[.val (.int p0), .val (.int p1), .val (.int p2), .val (.int p3), .val (.ref k_78), .val (.ref b_79), .val (.ref b_81), .val (.ref b_83), .val (.ref b85), .unset] [(.ref b_89)])) _
    refine XS.astore X89.here hx rfl (hb hby at_52) rfl rfl (l' := #[.val (.int p0), .val (.int p1), .val (.int p2), .val (.int p3), .val (.ref k_78), .val (.ref b_79), .val (.ref b_81), .val (.ref b_83), .val (.ref b85), .val (.ref b_89)]) rfl ?_
    show Steps p.tables e below (T89.setTop (mkF m 54 #[.val (.int p0), .val (.int p1), .val (.int p2), .val (.int p3), .val (.ref k_78), .val (.ref b_79), .val (.ref b_81), .val (.ref b_83), .val (.ref b85), .val (.ref b_89)] [])) _
    refine XS.aload X89.here hx rfl (hb hby at_54) rfl rfl ?_
    show Steps p.tables e below (T89.setTop (mkF m 56 #[.val (.int p0), .val (.int p1), .val (.int p2), .val (.int p3), .val (.ref k_78), .val (.ref b_79), .val (.ref b_81), .val (.ref b_83), .val (.ref b85), .val (.ref b_89)] [(.ref b_89)])) _
    refine st91.trans ?_
    show Steps p.tables e below (T91.setTop (mkF m 59 #[.val (.int p0), .val (.int p1), .val (.int p2), .val (.int p3), .val (.ref k_78), .val (.ref b_79), .val (.ref b_81), .val (.ref b_83), .val (.ref b85), .val (.ref b_89)] [(.ref k_78)])) _
    refine XS.aload X91.here hx rfl (hb hby at_59) rfl rfl ?_
    show Steps p.tables e below (T91.setTop (mkF m 61 #[.val (.int p0), .val (.int p1), .val (.int p2), .val (.int p3), .val (.ref k_78), .val (.ref b_79), .val (.ref b_81), .val (.ref b_83), .val (.ref b85), .val (.ref b_89)] [(.ref k_78), (.ref k_78)])) _
    refine Jvm.RoadKit.acmp (g := (mkF m 61 #[.val (.int p0), .val (.int p1), .val (.int p2), .val (.int p3), .val (.ref k_78), .val (.ref b_79), .val (.ref b_81), .val (.ref b_83), .val (.ref b85), .val (.ref b_89)] [(.ref k_78), (.ref k_78)])) X91 hx rfl rfl rfl (pc0 := 61) (pc' := 64) (same := true) rfl (hb hby at_61) rfl (decide_eq_true rfl) (by decide) (by decide) ?_
    show Steps p.tables e below (T91.setTop (mkF m 64 #[.val (.int p0), .val (.int p1), .val (.int p2), .val (.int p3), .val (.ref k_78), .val (.ref b_79), .val (.ref b_81), .val (.ref b_83), .val (.ref b85), .val (.ref b_89)] [])) _
    refine XS.aload X91.here hx rfl (hb hby at_64) rfl rfl ?_
    show Steps p.tables e below (T91.setTop (mkF m 66 #[.val (.int p0), .val (.int p1), .val (.int p2), .val (.int p3), .val (.ref k_78), .val (.ref b_79), .val (.ref b_81), .val (.ref b_83), .val (.ref b85), .val (.ref b_89)] [(.ref b_89)])) _
    refine st92.trans ?_
    show Steps p.tables e below (T92.setTop (mkF m 69 #[.val (.int p0), .val (.int p1), .val (.int p2), .val (.int p3), .val (.ref k_78), .val (.ref b_79), .val (.ref b_81), .val (.ref b_83), .val (.ref b85), .val (.ref b_89)] [(.ref b_79)])) _
    refine XS.aload X92.here hx rfl (hb hby at_69) rfl rfl ?_
    show Steps p.tables e below (T92.setTop (mkF m 71 #[.val (.int p0), .val (.int p1), .val (.int p2), .val (.int p3), .val (.ref k_78), .val (.ref b_79), .val (.ref b_81), .val (.ref b_83), .val (.ref b85), .val (.ref b_89)] [(.ref b_79), (.ref b_79)])) _
    refine st93.trans ?_
    show Steps p.tables e below (T93.setTop (mkF m 74 #[.val (.int p0), .val (.int p1), .val (.int p2), .val (.int p3), .val (.ref k_78), .val (.ref b_79), .val (.ref b_81), .val (.ref b_83), .val (.ref b85), .val (.ref b_89)] [(.int (1 : Int32))])) _
    refine XS.ifNo X93.here hx rfl (hb hby at_74) rfl ((if0 _ _).trans (feq (by decide : ¬ ((1 : Int32) = (0 : Int32)))).1) ?_
    show Steps p.tables e below (T93.setTop (mkF m 77 #[.val (.int p0), .val (.int p1), .val (.int p2), .val (.int p3), .val (.ref k_78), .val (.ref b_79), .val (.ref b_81), .val (.ref b_83), .val (.ref b85), .val (.ref b_89)] [])) _
    refine XS.aload X93.here hx rfl (hb hby at_77) rfl rfl ?_
    show Steps p.tables e below (T93.setTop (mkF m 79 #[.val (.int p0), .val (.int p1), .val (.int p2), .val (.int p3), .val (.ref k_78), .val (.ref b_79), .val (.ref b_81), .val (.ref b_83), .val (.ref b85), .val (.ref b_89)] [(.ref b_89)])) _
    refine st95.trans ?_
    show Steps p.tables e below (T95.setTop (mkF m 82 #[.val (.int p0), .val (.int p1), .val (.int p2), .val (.int p3), .val (.ref k_78), .val (.ref b_79), .val (.ref b_81), .val (.ref b_83), .val (.ref b85), .val (.ref b_89)] [(.ref b_81)])) _
    refine XS.aload X95.here hx rfl (hb hby at_82) rfl rfl ?_
    show Steps p.tables e below (T95.setTop (mkF m 84 #[.val (.int p0), .val (.int p1), .val (.int p2), .val (.int p3), .val (.ref k_78), .val (.ref b_79), .val (.ref b_81), .val (.ref b_83), .val (.ref b85), .val (.ref b_89)] [(.ref b_81), (.ref b_81)])) _
    refine st96.trans ?_
    show Steps p.tables e below (T96.setTop (mkF m 87 #[.val (.int p0), .val (.int p1), .val (.int p2), .val (.int p3), .val (.ref k_78), .val (.ref b_79), .val (.ref b_81), .val (.ref b_83), .val (.ref b85), .val (.ref b_89)] [(.int (1 : Int32))])) _
    refine XS.ifNo X96.here hx rfl (hb hby at_87) rfl ((if0 _ _).trans (feq (by decide : ¬ ((1 : Int32) = (0 : Int32)))).1) ?_
    show Steps p.tables e below (T96.setTop (mkF m 90 #[.val (.int p0), .val (.int p1), .val (.int p2), .val (.int p3), .val (.ref k_78), .val (.ref b_79), .val (.ref b_81), .val (.ref b_83), .val (.ref b85), .val (.ref b_89)] [])) _
    refine XS.aload X96.here hx rfl (hb hby at_90) rfl rfl ?_
    show Steps p.tables e below (T96.setTop (mkF m 92 #[.val (.int p0), .val (.int p1), .val (.int p2), .val (.int p3), .val (.ref k_78), .val (.ref b_79), .val (.ref b_81), .val (.ref b_83), .val (.ref b85), .val (.ref b_89)] [(.ref b_89)])) _
    refine st98.trans ?_
    show Steps p.tables e below (T98.setTop (mkF m 95 #[.val (.int p0), .val (.int p1), .val (.int p2), .val (.int p3), .val (.ref k_78), .val (.ref b_79), .val (.ref b_81), .val (.ref b_83), .val (.ref b85), .val (.ref b_89)] [(.ref em)])) _
    refine st99.trans ?_
    show Steps p.tables e below (T99.setTop (mkF m 98 #[.val (.int p0), .val (.int p1), .val (.int p2), .val (.int p3), .val (.ref k_78), .val (.ref b_79), .val (.ref b_81), .val (.ref b_83), .val (.ref b85), .val (.ref b_89)] [(.int (0 : Int32))])) _
    refine XS.ifNo X99.here hx rfl (hb hby at_98) rfl ((if0 _ _).trans (teq (by decide : (0 : Int32) = (0 : Int32))).2) ?_
    show Steps p.tables e below (T99.setTop (mkF m 101 #[.val (.int p0), .val (.int p1), .val (.int p2), .val (.int p3), .val (.ref k_78), .val (.ref b_79), .val (.ref b_81), .val (.ref b_83), .val (.ref b85), .val (.ref b_89)] [])) _
    refine XS.aload X99.here hx rfl (hb hby at_101) rfl rfl ?_
    show Steps p.tables e below (T99.setTop (mkF m 103 #[.val (.int p0), .val (.int p1), .val (.int p2), .val (.int p3), .val (.ref k_78), .val (.ref b_79), .val (.ref b_81), .val (.ref b_83), .val (.ref b85), .val (.ref b_89)] [(.ref b_89)])) _
    refine st100.trans ?_
    show Steps p.tables e below (T100.setTop (mkF m 106 #[.val (.int p0), .val (.int p1), .val (.int p2), .val (.int p3), .val (.ref k_78), .val (.ref b_79), .val (.ref b_81), .val (.ref b_83), .val (.ref b85), .val (.ref b_89)] [(.ref em)])) _
    refine st101.trans ?_
    show Steps p.tables e below (T101.setTop (mkF m 109 #[.val (.int p0), .val (.int p1), .val (.int p2), .val (.int p3), .val (.ref k_78), .val (.ref b_79), .val (.ref b_81), .val (.ref b_83), .val (.ref b85), .val (.ref b_89)] [(.int (0 : Int32))])) _
    refine XS.ifNo X101.here hx rfl (hb hby at_109) rfl ((if0 _ _).trans (teq (by decide : (0 : Int32) = (0 : Int32))).2) ?_
    show Steps p.tables e below (T101.setTop (mkF m 112 #[.val (.int p0), .val (.int p1), .val (.int p2), .val (.int p3), .val (.ref k_78), .val (.ref b_79), .val (.ref b_81), .val (.ref b_83), .val (.ref b85), .val (.ref b_89)] [])) _
    refine XS.iconst X101.here hx rfl (hb hby at_112) ?_
    show Steps p.tables e below (T101.setTop (mkF m 113 #[.val (.int p0), .val (.int p1), .val (.int p2), .val (.int p3), .val (.ref k_78), .val (.ref b_79), .val (.ref b_81), .val (.ref b_83), .val (.ref b85), .val (.ref b_89)] [(.int (1 : Int32))])) _
    refine XS.goto X101.here hx rfl (pc0 := 113) (pc' := 117) rfl (hb hby at_113) (by decide) (by decide) ?_
    show Steps p.tables e below (T101.setTop (mkF m 117 #[.val (.int p0), .val (.int p1), .val (.int p2), .val (.int p3), .val (.ref k_78), .val (.ref b_79), .val (.ref b_81), .val (.ref b_83), .val (.ref b85), .val (.ref b_89)] [(.int (1 : Int32))])) _
    exact retN X101 hx (t := .boolean) Bd.returns (by simp) (hb hby at_117) hr
  · show Q0 Z G1 em k0 k1 k2 k3 k4 k5 p0 p1 p2 p3 h0 n0 _ T101.heap _
    rw [eq101]
    exact ⟨rfl, N101, K0_90⟩
theorem own_fldN {args : Array Value} {s : State} {t : Term} {a : Addr} {C n d : String} (ev : t.eval args s none [] s = some (.ref a)) (h : (Jvm.Cond.eq (Term.field t C n d) Term.null).value args s none s [] = some true) : Fld s s.heap a C n d .null := by
  apply Fld.start
  cases hf : s.fieldOf? a C n d with
  | none => simp [Cond.value, Term.eval, ev, hf] at h
  | some v => cases v <;> first | rfl | (simp [Cond.value, Term.eval, ev, hf] at h; done)
set_option maxRecDepth 65536 in
set_option maxHeartbeats 40000000 in
theorem comes_1 {Post : Tables → Env → Array Value → State → Outcome → State → Prop} (hpost : ∀ tb e args s v u, (limb_1_1.after args s (.returned v) u = true ∧ limb_1_2.after args s (.returned v) u = true ∧ True) → FrameEnd s (.returned v) u (Jvm.fieldLocs frame_1_writes args s ++ Jvm.arrayLocs frame_1_arrays args s ++ Jvm.staticLocs frame_1_statics s) 32 128 → Post tb e args s (.returned v) u) :
    ArmFor flags0 classFile x code maxLocals ret World_1 tables_1 room_1 Calls_1 rest_1 Pre_1 Post := by
  intro l hfl _ _ p e ha hc hk s m args below hf hA hF happ hP
  obtain ⟨hcalls, hrest, hpre⟩ := hP
  obtain ⟨-, -, -, hnamed, -, -, -, hat⟩ := (Spec.applies_iff hf).mp happ
  obtain ⟨hg, hn⟩ := and_e (Cond.before_iff.mp (show (Jvm.Cond.and given_1 narrow_1).before args s = true from hpre))
  obtain ⟨gc, gr0⟩ := and_e hg
  obtain ⟨ga0, gr1⟩ := and_e gr0
  obtain ⟨ga1, gr2⟩ := and_e gr1
  obtain ⟨ga2, gr3⟩ := and_e gr2
  obtain ⟨w0, w1, w2, w3, rfl⟩ : ∃ w0 w1 w2 w3 : Value, args = #[w0, w1, w2, w3] := by
    have hs : args.size = 4 := by simpa [Cond.value, given_1] using gc
    obtain ⟨L⟩ := args
    match L, hs with
    | [w0, w1, w2, w3], _ => exact ⟨w0, w1, w2, w3, rfl⟩
  have hw := fun d (hd : d ∈ tables_1) => atoms_spec (ws := Jvm.Cond.code x code maxLocals ret :: tables_1) hat d (List.mem_cons_of_mem _ hd)
  have hfit : Fit s := fun {y c} hc i hi => by
    obtain ⟨ha, rfl⟩ := Array.getElem?_eq_some_iff.mp hc
    have q := List.all_eq_true.mp ((Array.all_eq_true_iff_forall_mem.mp hF) _ (Array.getElem_mem ha)) i (List.mem_range.mpr hi)
    simpa [Array.getElem?_eq_getElem hi] using q
  obtain ⟨hsets, hown0⟩ := atoms_of _ (rest_1_c_eq ▸ (show rest_1_c.before _ s = true from hrest))
  obtain ⟨i0, ei0⟩ := is_v ga0
  obtain rfl : w0 = (.int i0) := Option.some.inj ei0
  obtain ⟨i1, ei1⟩ := is_v ga1
  obtain rfl : w1 = (.int i1) := Option.some.inj ei1
  obtain ⟨i2, ei2⟩ := is_v ga2
  obtain rfl : w2 = (.int i2) := Option.some.inj ei2
  obtain ⟨i3, ei3⟩ := is_v gr3
  obtain rfl : w3 = (.int i3) := Option.some.inj ei3
  have W : ∀ (i : Nat) {d : Jvm.Cond}, tables_1[i]? = some d → d.before _ s = true := fun i d h => hw d (List.mem_of_getElem? h)
  obtain ⟨G, eG⟩ := is_v (Cond.before_iff.mp (hsets _ (List.mem_of_getElem? (i := 1) rfl)))
  have nG := not_v (Cond.before_iff.mp (hsets _ (List.mem_of_getElem? (i := 2) rfl)))
  have SG : Sta s s.heap "java/lang/String" "COMPACT_STRINGS" "Z" (.int G) := Sta.start eG (Or.inl (hsets _ (List.mem_of_getElem? (i := 0) rfl)))
  have cG : ¬ (G = (0 : Int32)) := gotF (Cond.eq_ints eG (Term.int_eval (0))) nG
  obtain ⟨em, cE, cellE, kE, eE, -⟩ := Cond.exactly_spec (hsets _ (List.mem_of_getElem? (i := 11) rfl))
  have SE : Sta s s.heap "java/util/Optional" "EMPTY" "Ljava/util/Optional;" (.ref em) := Sta.start eE (Or.inl (hsets _ (List.mem_of_getElem? (i := 10) rfl)))
  have XE : Exa s s.heap em "java/util/Optional" := Exa.start eE (Cond.before_iff.mp (hsets _ (List.mem_of_getElem? (i := 11) rfl)))
  have VE : Fld s s.heap em "java/util/Optional" "value" "Ljava/lang/Object;" .null := own_fldN eE (Cond.before_iff.mp (hsets _ (List.mem_of_getElem? (i := 12) rfl)))
  obtain ⟨n0_, hn1⟩ := and_e hn
  obtain ⟨n1_, hn2⟩ := and_e hn1
  obtain ⟨n2_, hn3⟩ := and_e hn2
  obtain ⟨n3_, hn4⟩ := and_e hn3
  obtain ⟨n4_, n5_⟩ := and_e hn4
  obtain ⟨k0, ck0, cellk0, kkk0, ek0, -⟩ := Cond.exactly_spec (Cond.before_iff.mpr n0_)
  have Sk0 : Sta s s.heap "com/example/clauses_to_controls/clausestocontrols/service/TailoringFinding$Kind" "UNKNOWN" "Lcom/example/clauses_to_controls/clausestocontrols/service/TailoringFinding$Kind;" (.ref k0) := Sta.start ek0 (Or.inr ⟨(W 6 rfl), (W 7 rfl)⟩)
  obtain ⟨k1, ck1, cellk1, kkk1, ek1, -⟩ := Cond.exactly_spec (Cond.before_iff.mpr n1_)
  have Sk1 : Sta s s.heap "com/example/clauses_to_controls/clausestocontrols/service/TailoringFinding$Kind" "DUPLICATE" "Lcom/example/clauses_to_controls/clausestocontrols/service/TailoringFinding$Kind;" (.ref k1) := Sta.start ek1 (Or.inr ⟨(W 6 rfl), (W 127 rfl)⟩)
  obtain ⟨k4, ck4, cellk4, kkk4, ek4, -⟩ := Cond.exactly_spec (Cond.before_iff.mpr n2_)
  have Sk4 : Sta s s.heap "com/example/clauses_to_controls/clausestocontrols/service/TailoringFinding$Kind" "LOOSER" "Lcom/example/clauses_to_controls/clausestocontrols/service/TailoringFinding$Kind;" (.ref k4) := Sta.start ek4 (Or.inr ⟨(W 6 rfl), (W 129 rfl)⟩)
  obtain ⟨k3, ck3, cellk3, kkk3, ek3, -⟩ := Cond.exactly_spec (Cond.before_iff.mpr n3_)
  have Sk3 : Sta s s.heap "com/example/clauses_to_controls/clausestocontrols/service/TailoringFinding$Kind" "INVALID" "Lcom/example/clauses_to_controls/clausestocontrols/service/TailoringFinding$Kind;" (.ref k3) := Sta.start ek3 (Or.inr ⟨(W 6 rfl), (W 131 rfl)⟩)
  obtain ⟨k5, ck5, cellk5, kkk5, ek5, -⟩ := Cond.exactly_spec (Cond.before_iff.mpr n4_)
  have Sk5 : Sta s s.heap "com/example/clauses_to_controls/clausestocontrols/service/TailoringFinding$Kind" "MISSING" "Lcom/example/clauses_to_controls/clausestocontrols/service/TailoringFinding$Kind;" (.ref k5) := Sta.start ek5 (Or.inr ⟨(W 6 rfl), (W 133 rfl)⟩)
  obtain ⟨k2, ck2, cellk2, kkk2, ek2, -⟩ := Cond.exactly_spec (Cond.before_iff.mpr n5_)
  have Sk2 : Sta s s.heap "com/example/clauses_to_controls/clausestocontrols/service/TailoringFinding$Kind" "NOT_TAILORABLE" "Lcom/example/clauses_to_controls/clausestocontrols/service/TailoringFinding$Kind;" (.ref k2) := Sta.start ek2 (Or.inr ⟨(W 6 rfl), (W 135 rfl)⟩)
  have hG : Glob s _ G em k0 k1 k2 k3 k4 k5 := ⟨hw, SG, cG, SE, XE, VE, Sk0, Sk1, Sk2, Sk3, Sk4, Sk5⟩
  obtain ⟨n, o, h1, h2, h3, _, L, rfl, ⟨rfl, N, -⟩, hq⟩ := rm0 l s _ G em k0 k1 k2 k3 k4 k5 hG tables_1 i0 i1 i2 i3 s.heap s.heap.size (Nat.le_refl _) (Old.start s) p e ha hc hk s m _ below hf ((Spec.applies_iff_loose hf).mp happ).1 ⟨rfl, State.Warmed39.refl s, rfl⟩ trivial
  refine ⟨n, _, h1, h2, h3, hpost _ _ _ _ _ _ ⟨Cond.after_iff.mpr rfl, Cond.after_iff.mpr (eq_i res_at (Term.int_eval (1)) rfl), trivial⟩ ⟨hq.1, hq.2.1, (hq.2.2.sift fun y hy => Or.inr (N y hy)).mono (by decide) (by decide)⟩⟩
theorem main_1_1 : Claimed_1_1 := comes_1 fun _ _ _ _ _ _ h hF => ⟨h.1, hF⟩
theorem main_1_2 : Claimed_1_2 := comes_1 fun _ _ _ _ _ _ h hF => ⟨h.2.1, hF⟩
end Jvm.Pilot.@@N@@
namespace Jvm.Pilot.@@N@@
open Jvm Jvm.ClassFile Sem Op Lib Jvm.Free Jvm.Stand Jvm.Pilot.@@N@@.Jvm.D
/-! MADE BY PROGRAM (witnessworld.py) out of the Statement's table words and the real class files: 24 classes; the members and pool entries that the words name. The judged class is class 1, her method 3. -/
namespace start1
open Jvm.ClassFile
def u (s : String) : CpInfo := .utf8 (stringToUtf16 s)
/-- a pool by its gaps: so many unusable entries, then the entry; so many at the end -/
def gap : Nat → List CpInfo → List CpInfo
  | 0, r => r
  | n + 1, r => .unusable :: gap n r
def poolList (es : List (Nat × CpInfo)) (last : Nat) : List CpInfo := es.foldr (fun e r => gap e.1 (e.2 :: r)) (gap last [])
def pool (es : List (Nat × CpInfo)) (last : Nat) : Array CpInfo := ⟨poolList es last⟩
def fileOf (pool : Array CpInfo) (this : Nat) (attrs : Array Attribute := #[]) (ms : Array MethodInfo := #[]) (fl : Nat := 33) (sup : Nat := 0) (ifs : Array Nat := #[]) (fds : Array FieldInfo := #[]) : ClassFile where
  minorVersion := 0
  majorVersion := 65
  constantPool := pool
  accessFlags := fl
  thisClass := this
  superClass := sup
  interfaces := ifs
  fields := fds
  methods := ms
  attributes := attrs
def plain (name : String) (sup : Option ClassId) : Class where
  name := name
  kind := .ordinary
  loader := none
  accessFlags := 33
  super := sup
  interfaces := #[]
  cf := none
  fields := #[]
  methods := #[]
  instanceTypes := #[]
  staticTypes := #[]
  resolved := #[]
  callSites := []
  init := .initialized
  statics := none
  mirror := none

def pool0 : Array CpInfo := pool [(5, u "<init>"), (0, u "()V"), (1, .class_ 10), (1, u "java/lang/Object")] 113

def k0c0 : Code := { maxStack := 0, maxLocals := 1, code := object_method_1_code, exceptionTable := #[], attributes := #[] }
def k0m0 : Method := { name := "<init>", desc := "()V", sig := { parameters := [], returnType := none }, accessFlags := 1, code := some k0c0 }
/-- java/lang/Object -/
def k0 : Class := { plain "java/lang/Object" none with
  accessFlags := 33
  interfaces := #[]
  cf := some (fileOf pool0 8 #[] #[{ accessFlags := 1, nameIndex := 5, descriptorIndex := 6, attributes := #[] }] 33 0 #[] #[])
  fields := #[]
  methods := #[k0m0]
  instanceTypes := #[]
  staticTypes := #[]
  resolved := Array.replicate 124 none
  statics := none }

def pool1 : Array CpInfo := pool [(2, .class_ 4), (1, u "java/lang/Object"), (0, u "<init>"), (0, u "()V"), (0, .fieldref 8 9), (0, .class_ 10), (0, .nameAndType 11 12), (0, u "com/example/clauses_to_controls/clausestocontrols/service/TailoringFinding$Kind"), (0, u "UNKNOWN"), (0, u "Lcom/example/clauses_to_controls/clausestocontrols/service/TailoringFinding$Kind;"), (0, .fieldref 8 14), (0, .nameAndType 15 12), (0, u "DUPLICATE"), (0, .fieldref 8 17), (0, .nameAndType 18 12), (0, u "NOT_TAILORABLE"), (0, .fieldref 8 20), (0, .nameAndType 21 12), (0, u "INVALID"), (0, .fieldref 8 23), (0, .nameAndType 24 12), (0, u "LOOSER"), (0, .fieldref 8 26), (0, .nameAndType 27 12), (0, u "MISSING"), (0, .class_ 29), (0, u "java/lang/String"), (0, .methodref 28 31), (0, .nameAndType 5 32), (0, u "([C)V"), (0, .integer 2147483647), (0, .methodref 35 36), (0, .class_ 37), (0, .nameAndType 38 39), (0, u "com/example/clauses_to_controls/clausestocontrols/service/TailoringFindingAboutPinLaw"), (0, u "kindOf"), (0, u "(I)Lcom/example/clauses_to_controls/clausestocontrols/service/TailoringFinding$Kind;"), (0, .methodref 35 41), (0, .nameAndType 42 43), (0, u "draw"), (0, u "(I)Ljava/lang/String;"), (0, .class_ 45), (0, u "com/example/clauses_to_controls/clausestocontrols/model/TailoredValue"), (0, .methodref 44 47), (0, .nameAndType 5 48), (0, u "(Ljava/lang/String;Ljava/lang/String;Ljava/lang/String;)V"), (0, .methodref 50 51), (0, .class_ 52), (0, .nameAndType 53 54), (0, u "com/example/clauses_to_controls/clausestocontrols/service/TailoringFinding"), (0, u "about"), (0, u "(Lcom/example/clauses_to_controls/clausestocontrols/service/TailoringFinding$Kind;Lcom/example/clauses_to_controls/clausestocontrols/model/TailoredValue;)Lcom/example/clauses_to_controls/clausestocontrols/service/TailoringFinding;"), (0, .methodref 50 56), (0, .nameAndType 57 58), (0, u "kind"), (0, u "()Lcom/example/clauses_to_controls/clausestocontrols/service/TailoringFinding$Kind;"), (0, .methodref 50 60), (0, .nameAndType 61 62), (0, u "component"), (0, u "()Ljava/lang/String;"), (0, .methodref 28 64), (0, .nameAndType 65 66), (0, u "equals"), (0, u "(Ljava/lang/Object;)Z"), (0, .methodref 50 68), (0, .nameAndType 69 62), (0, u "parameter"), (0, .methodref 50 71), (0, .nameAndType 72 73), (0, u "value"), (0, u "()Ljava/util/Optional;"), (0, .methodref 75 76), (0, .class_ 77), (0, .nameAndType 78 79), (0, u "java/util/Optional"), (0, u "isPresent"), (0, u "()Z"), (0, .methodref 50 81), (0, .nameAndType 82 73), (0, u "standardValue"), (3, u "law"), (0, u "(IIII)Z")] 4

def k1m0 : Method := { name := "<init>", desc := "()V", sig := { parameters := [], returnType := none }, accessFlags := 1, code := none }
def k1c1 : Code := { maxStack := 2, maxLocals := 1, code := method_2_code, exceptionTable := #[], attributes := #[] }
def k1m1 : Method := { name := "kindOf", desc := "(I)Lcom/example/clauses_to_controls/clausestocontrols/service/TailoringFinding$Kind;", sig := { parameters := [.int], returnType := some (.object "com/example/clauses_to_controls/clausestocontrols/service/TailoringFinding$Kind") }, accessFlags := 10, code := some k1c1 }
def k1c2 : Code := { maxStack := 5, maxLocals := 2, code := method_3_code, exceptionTable := #[], attributes := #[] }
def k1m2 : Method := { name := "draw", desc := "(I)Ljava/lang/String;", sig := { parameters := [.int], returnType := some (.object "java/lang/String") }, accessFlags := 10, code := some k1c2 }
def k1c3 : Code := { maxStack := 5, maxLocals := 10, code := code, exceptionTable := #[], attributes := #[] }
def k1m3 : Method := { name := "law", desc := "(IIII)Z", sig := { parameters := [.int, .int, .int, .int], returnType := some .boolean }, accessFlags := 9, code := some k1c3 }
/-- com/example/clauses_to_controls/clausestocontrols/service/TailoringFindingAboutPinLaw -/
def k1 : Class := { plain "com/example/clauses_to_controls/clausestocontrols/service/TailoringFindingAboutPinLaw" (some 0) with
  accessFlags := 49
  interfaces := #[]
  cf := some (fileOf pool1 35 #[] #[{ accessFlags := 1, nameIndex := 5, descriptorIndex := 6, attributes := #[] }, { accessFlags := 10, nameIndex := 38, descriptorIndex := 39, attributes := #[] }, { accessFlags := 10, nameIndex := 42, descriptorIndex := 43, attributes := #[] }, { accessFlags := 9, nameIndex := 86, descriptorIndex := 87, attributes := #[] }] 49 2 #[] #[])
  fields := #[]
  methods := #[k1m0, k1m1, k1m2, k1m3]
  instanceTypes := #[]
  staticTypes := #[]
  resolved := Array.replicate 92 none
  statics := none }

def pool2 : Array CpInfo := pool [(1, .class_ 2), (0, u "java/lang/constant/Constable"), (0, .class_ 4), (0, u "java/lang/Object")] 6

/-- java/lang/constant/Constable -/
def k2 : Class := { plain "java/lang/constant/Constable" (some 0) with
  accessFlags := 1537
  interfaces := #[]
  cf := some (fileOf pool2 1 #[] #[] 1537 3 #[] #[])
  fields := #[]
  methods := #[]
  instanceTypes := #[]
  staticTypes := #[]
  resolved := Array.replicate 11 none
  statics := none }

def pool3 : Array CpInfo := pool [(1, .class_ 2), (0, u "java/lang/Comparable"), (0, .class_ 4), (0, u "java/lang/Object")] 7

/-- java/lang/Comparable -/
def k3 : Class := { plain "java/lang/Comparable" (some 0) with
  accessFlags := 1537
  interfaces := #[]
  cf := some (fileOf pool3 1 #[] #[] 1537 3 #[] #[])
  fields := #[]
  methods := #[]
  instanceTypes := #[]
  staticTypes := #[]
  resolved := Array.replicate 12 none
  statics := none }

def pool4 : Array CpInfo := pool [(1, .class_ 2), (0, u "java/io/Serializable"), (0, .class_ 4), (0, u "java/lang/Object")] 2

/-- java/io/Serializable -/
def k4 : Class := { plain "java/io/Serializable" (some 0) with
  accessFlags := 1537
  interfaces := #[]
  cf := some (fileOf pool4 1 #[] #[] 1537 3 #[] #[])
  fields := #[]
  methods := #[]
  instanceTypes := #[]
  staticTypes := #[]
  resolved := Array.replicate 7 none
  statics := none }

def pool5 : Array CpInfo := pool [(2, .class_ 4), (1, u "java/lang/Enum"), (0, u "name"), (0, u "Ljava/lang/String;"), (2, u "ordinal"), (0, u "I"), (1, .class_ 14), (1, u "java/lang/Object"), (4, u "hash"), (86, .class_ 108), (1, u "java/lang/Enum$EnumDesc"), (2, .class_ 112), (0, u "java/lang/constant/Constable"), (0, .class_ 114), (0, u "java/lang/Comparable"), (0, .class_ 116), (0, u "java/io/Serializable")] 87

/-- java/lang/Enum -/
def k5 : Class := { plain "java/lang/Enum" (some 0) with
  accessFlags := 1057
  interfaces := #[2, 3, 4]
  cf := some (fileOf pool5 2 #[.nestMembers #[106]] #[] 1057 12 #[111, 113, 115] #[{ accessFlags := 18, nameIndex := 5, descriptorIndex := 6, attributes := #[] }, { accessFlags := 18, nameIndex := 9, descriptorIndex := 10, attributes := #[] }, { accessFlags := 2, nameIndex := 19, descriptorIndex := 10, attributes := #[] }])
  fields := #[{ name := "name", type := (.object "java/lang/String"), accessFlags := 18, slot := 0, constantValue := 0 }, { name := "ordinal", type := .int, accessFlags := 18, slot := 1, constantValue := 0 }, { name := "hash", type := .int, accessFlags := 2, slot := 2, constantValue := 0 }]
  methods := #[]
  instanceTypes := #[(.object "java/lang/String"), .int, .int]
  staticTypes := #[]
  resolved := Array.replicate 204 none
  statics := none }

def pool6 : Array CpInfo := pool [(1, .class_ 2), (0, u "com/example/clauses_to_controls/clausestocontrols/service/TailoringFinding$Kind"), (2, u "UNKNOWN"), (0, u "Lcom/example/clauses_to_controls/clausestocontrols/service/TailoringFinding$Kind;"), (2, u "DUPLICATE"), (2, u "NOT_TAILORABLE"), (2, u "INVALID"), (2, u "LOOSER"), (2, u "MISSING"), (2, u "$VALUES"), (0, u "[Lcom/example/clauses_to_controls/clausestocontrols/service/TailoringFinding$Kind;"), (6, .class_ 34), (1, u "java/lang/Enum"), (29, .class_ 65), (0, u "com/example/clauses_to_controls/clausestocontrols/service/TailoringFinding")] 2

/-- com/example/clauses_to_controls/clausestocontrols/service/TailoringFinding$Kind -/
def k6 : Class := { plain "com/example/clauses_to_controls/clausestocontrols/service/TailoringFinding$Kind" (some 5) with
  accessFlags := 16433
  interfaces := #[]
  cf := some (fileOf pool6 1 #[.nestHost 64] #[] 16433 32 #[] #[{ accessFlags := 16409, nameIndex := 5, descriptorIndex := 6, attributes := #[] }, { accessFlags := 16409, nameIndex := 9, descriptorIndex := 6, attributes := #[] }, { accessFlags := 16409, nameIndex := 12, descriptorIndex := 6, attributes := #[] }, { accessFlags := 16409, nameIndex := 15, descriptorIndex := 6, attributes := #[] }, { accessFlags := 16409, nameIndex := 18, descriptorIndex := 6, attributes := #[] }, { accessFlags := 16409, nameIndex := 21, descriptorIndex := 6, attributes := #[] }, { accessFlags := 4122, nameIndex := 24, descriptorIndex := 25, attributes := #[] }])
  fields := #[{ name := "UNKNOWN", type := (.object "com/example/clauses_to_controls/clausestocontrols/service/TailoringFinding$Kind"), accessFlags := 16409, slot := 0, constantValue := 0 }, { name := "DUPLICATE", type := (.object "com/example/clauses_to_controls/clausestocontrols/service/TailoringFinding$Kind"), accessFlags := 16409, slot := 1, constantValue := 0 }, { name := "NOT_TAILORABLE", type := (.object "com/example/clauses_to_controls/clausestocontrols/service/TailoringFinding$Kind"), accessFlags := 16409, slot := 2, constantValue := 0 }, { name := "INVALID", type := (.object "com/example/clauses_to_controls/clausestocontrols/service/TailoringFinding$Kind"), accessFlags := 16409, slot := 3, constantValue := 0 }, { name := "LOOSER", type := (.object "com/example/clauses_to_controls/clausestocontrols/service/TailoringFinding$Kind"), accessFlags := 16409, slot := 4, constantValue := 0 }, { name := "MISSING", type := (.object "com/example/clauses_to_controls/clausestocontrols/service/TailoringFinding$Kind"), accessFlags := 16409, slot := 5, constantValue := 0 }, { name := "$VALUES", type := (.array (.object "com/example/clauses_to_controls/clausestocontrols/service/TailoringFinding$Kind")), accessFlags := 4122, slot := 6, constantValue := 0 }]
  methods := #[]
  instanceTypes := #[(.object "java/lang/String"), .int, .int]
  staticTypes := #[(.object "com/example/clauses_to_controls/clausestocontrols/service/TailoringFinding$Kind"), (.object "com/example/clauses_to_controls/clausestocontrols/service/TailoringFinding$Kind"), (.object "com/example/clauses_to_controls/clausestocontrols/service/TailoringFinding$Kind"), (.object "com/example/clauses_to_controls/clausestocontrols/service/TailoringFinding$Kind"), (.object "com/example/clauses_to_controls/clausestocontrols/service/TailoringFinding$Kind"), (.object "com/example/clauses_to_controls/clausestocontrols/service/TailoringFinding$Kind"), (.array (.object "com/example/clauses_to_controls/clausestocontrols/service/TailoringFinding$Kind"))]
  resolved := Array.replicate 68 none
  statics := some 0 }

def pool7 : Array CpInfo := pool [(2, .class_ 4), (1, u "java/lang/CharSequence"), (42, .class_ 48), (0, u "java/lang/CharSequence$1CodePointIterator"), (10, .class_ 60), (0, u "java/lang/CharSequence$1CharIterator"), (5, .class_ 67), (0, u "java/lang/Object")] 63

/-- java/lang/CharSequence -/
def k7 : Class := { plain "java/lang/CharSequence" (some 0) with
  accessFlags := 1537
  interfaces := #[]
  cf := some (fileOf pool7 2 #[.nestMembers #[47, 59]] #[] 1537 66 #[] #[])
  fields := #[]
  methods := #[]
  instanceTypes := #[]
  staticTypes := #[]
  resolved := Array.replicate 131 none
  statics := none }

def pool8 : Array CpInfo := pool [(1, .class_ 2), (0, u "java/lang/constant/ConstantDesc"), (0, .class_ 4), (0, u "java/lang/Object")] 32

/-- java/lang/constant/ConstantDesc -/
def k8 : Class := { plain "java/lang/constant/ConstantDesc" (some 0) with
  accessFlags := 1537
  interfaces := #[]
  cf := some (fileOf pool8 1 #[] #[] 1537 3 #[] #[])
  fields := #[]
  methods := #[]
  instanceTypes := #[]
  staticTypes := #[]
  resolved := Array.replicate 37 none
  statics := none }

def pool9 : Array CpInfo := pool [(1, .methodref 2 3), (0, .class_ 4), (0, .nameAndType 5 6), (0, u "java/lang/Object"), (0, u "<init>"), (0, u "()V"), (2, .fieldref 10 11), (0, .class_ 12), (0, .nameAndType 13 14), (0, u "java/lang/String"), (0, u "value"), (0, u "[B"), (0, .fieldref 10 16), (0, .nameAndType 17 18), (0, u "coder"), (0, u "B"), (2, u "hash"), (0, u "I"), (2, u "hashIsZero"), (0, u "Z"), (0, .methodref 10 28), (0, .nameAndType 5 29), (0, u "([CIILjava/lang/Void;)V"), (8, .fieldref 10 39), (0, .nameAndType 40 26), (0, u "COMPACT_STRINGS"), (1, .class_ 44), (1, u "java/lang/StringUTF16"), (0, u "compress"), (1, .methodref 42 48), (0, .nameAndType 49 50), (0, u "coderFromArrayLen"), (0, u "([BI)B"), (126, .methodref 42 178), (0, .nameAndType 45 179), (0, u "([CII)[B"), (363, u "equals"), (29, u "(Ljava/lang/Object;)Z"), (1, .class_ 576), (0, u "java/lang/CharSequence"), (22, u "CASE_INSENSITIVE_ORDER"), (0, u "Ljava/util/Comparator;"), (409, u "([C)V"), (90, u "serialPersistentFields"), (0, u "[Ljava/io/ObjectStreamField;"), (0, .class_ 1104), (0, u "java/lang/String$CaseInsensitiveComparator"), (1, .class_ 1107), (0, u "java/io/Serializable"), (0, .class_ 1109), (0, u "java/lang/Comparable"), (0, .class_ 1111), (0, u "java/lang/constant/Constable"), (0, .class_ 1113), (0, u "java/lang/constant/ConstantDesc"), (2, u "serialVersionUID"), (0, u "J"), (3, u "REPL"), (0, u "C"), (2, u "LATIN1"), (1, u "UTF16")] 323

def k9m0 : Method := { name := "<init>", desc := "()V", sig := { parameters := [], returnType := none }, accessFlags := 1, code := none }
def k9c1 : Code := { maxStack := 5, maxLocals := 2, code := jdk_42_method_3_code, exceptionTable := #[], attributes := #[] }
def k9m1 : Method := { name := "<init>", desc := "([C)V", sig := { parameters := [(.array .char)], returnType := none }, accessFlags := 1, code := some k9c1 }
def k9c2 : Code := { maxStack := 2, maxLocals := 3, code := jdk_42_method_66_code, exceptionTable := #[], attributes := #[] }
def k9m2 : Method := { name := "equals", desc := "(Ljava/lang/Object;)Z", sig := { parameters := [(.object "java/lang/Object")], returnType := some .boolean }, accessFlags := 1, code := some k9c2 }
def k9c3 : Code := { maxStack := 4, maxLocals := 6, code := jdk_42_method_149_code, exceptionTable := #[], attributes := #[] }
def k9m3 : Method := { name := "<init>", desc := "([CIILjava/lang/Void;)V", sig := { parameters := [(.array .char), .int, .int, (.object "java/lang/Void")], returnType := none }, accessFlags := 2, code := some k9c3 }
/-- java/lang/String -/
def k9 : Class := { plain "java/lang/String" (some 0) with
  accessFlags := 49
  interfaces := #[4, 3, 7, 2, 8]
  cf := some (fileOf pool9 10 #[.nestMembers #[1103]] #[{ accessFlags := 1, nameIndex := 5, descriptorIndex := 6, attributes := #[] }, { accessFlags := 1, nameIndex := 5, descriptorIndex := 1010, attributes := #[] }, { accessFlags := 1, nameIndex := 543, descriptorIndex := 573, attributes := #[] }, { accessFlags := 2, nameIndex := 5, descriptorIndex := 29, attributes := #[] }] 49 2 #[1106, 1108, 575, 1110, 1112] #[{ accessFlags := 18, nameIndex := 13, descriptorIndex := 14, attributes := #[] }, { accessFlags := 18, nameIndex := 17, descriptorIndex := 18, attributes := #[] }, { accessFlags := 2, nameIndex := 21, descriptorIndex := 22, attributes := #[] }, { accessFlags := 2, nameIndex := 25, descriptorIndex := 26, attributes := #[] }, { accessFlags := 26, nameIndex := 1116, descriptorIndex := 1117, attributes := #[] }, { accessFlags := 24, nameIndex := 40, descriptorIndex := 26, attributes := #[] }, { accessFlags := 26, nameIndex := 1101, descriptorIndex := 1102, attributes := #[] }, { accessFlags := 26, nameIndex := 1121, descriptorIndex := 1122, attributes := #[] }, { accessFlags := 25, nameIndex := 599, descriptorIndex := 600, attributes := #[] }, { accessFlags := 24, nameIndex := 1125, descriptorIndex := 18, attributes := #[] }, { accessFlags := 24, nameIndex := 1127, descriptorIndex := 18, attributes := #[] }])
  fields := #[{ name := "value", type := (.array .byte), accessFlags := 18, slot := 0, constantValue := 0 }, { name := "coder", type := .byte, accessFlags := 18, slot := 1, constantValue := 0 }, { name := "hash", type := .int, accessFlags := 2, slot := 2, constantValue := 0 }, { name := "hashIsZero", type := .boolean, accessFlags := 2, slot := 3, constantValue := 0 }, { name := "serialVersionUID", type := .long, accessFlags := 26, slot := 0, constantValue := 0 }, { name := "COMPACT_STRINGS", type := .boolean, accessFlags := 24, slot := 1, constantValue := 0 }, { name := "serialPersistentFields", type := (.array (.object "java/io/ObjectStreamField")), accessFlags := 26, slot := 2, constantValue := 0 }, { name := "REPL", type := .char, accessFlags := 26, slot := 3, constantValue := 0 }, { name := "CASE_INSENSITIVE_ORDER", type := (.object "java/util/Comparator"), accessFlags := 25, slot := 4, constantValue := 0 }, { name := "LATIN1", type := .byte, accessFlags := 24, slot := 5, constantValue := 0 }, { name := "UTF16", type := .byte, accessFlags := 24, slot := 6, constantValue := 0 }]
  methods := #[k9m0, k9m1, k9m2, k9m3]
  instanceTypes := #[(.array .byte), .byte, .int, .boolean]
  staticTypes := #[.long, .boolean, (.array (.object "java/io/ObjectStreamField")), .char, (.object "java/util/Comparator"), .byte, .byte]
  resolved := Array.replicate 1451 none
  statics := some 1 }

def pool10 : Array CpInfo := pool [(6, .class_ 8), (1, u "java/lang/Object"), (0, u "<init>"), (0, u "()V"), (1, .class_ 14), (1, u "java/lang/StringUTF16"), (31, u "$assertionsDisabled"), (0, u "Z"), (13, u "HI_BYTE_SHIFT"), (0, u "I"), (2, u "LO_BYTE_SHIFT"), (49, .methodref 12 116), (0, .nameAndType 117 118), (0, u "compress"), (0, u "([CI[BII)I"), (3, u "([CII)[B"), (138, u "coderFromArrayLen"), (0, u "([BI)B"), (106, .class_ 371), (1, u "java/lang/StringUTF16$LinesSpliterator"), (58, u "MAX_LENGTH"), (196, .class_ 628), (0, u "java/lang/StringUTF16$CodePointsSpliterator"), (0, .class_ 630), (0, u "java/lang/StringUTF16$CharsSpliterator")] 4

def k10m0 : Method := { name := "<init>", desc := "()V", sig := { parameters := [], returnType := none }, accessFlags := 0, code := none }
def k10c1 : Code := { maxStack := 2, maxLocals := 2, code := jdk_52_method_15_code, exceptionTable := #[], attributes := #[] }
def k10m1 : Method := { name := "coderFromArrayLen", desc := "([BI)B", sig := { parameters := [(.array .byte), .int], returnType := some .byte }, accessFlags := 8, code := some k10c1 }
def k10c2 : Code := { maxStack := 5, maxLocals := 6, code := jdk_52_method_16_code, exceptionTable := #[], attributes := #[] }
def k10m2 : Method := { name := "compress", desc := "([CII)[B", sig := { parameters := [(.array .char), .int, .int], returnType := some (.array .byte) }, accessFlags := 9, code := some k10c2 }
def k10c3 : Code := { maxStack := 3, maxLocals := 7, code := jdk_52_method_21_code, exceptionTable := #[], attributes := #[] }
def k10m3 : Method := { name := "compress", desc := "([CI[BII)I", sig := { parameters := [(.array .char), .int, (.array .byte), .int, .int], returnType := some .int }, accessFlags := 9, code := some k10c3 }
/-- java/lang/StringUTF16 -/
def k10 : Class := { plain "java/lang/StringUTF16" (some 0) with
  accessFlags := 48
  interfaces := #[]
  cf := some (fileOf pool10 12 #[.nestMembers #[627, 629, 369]] #[{ accessFlags := 0, nameIndex := 9, descriptorIndex := 10, attributes := #[] }, { accessFlags := 8, nameIndex := 261, descriptorIndex := 262, attributes := #[] }, { accessFlags := 9, nameIndex := 117, descriptorIndex := 122, attributes := #[] }, { accessFlags := 9, nameIndex := 117, descriptorIndex := 118, attributes := #[] }] 48 6 #[] #[{ accessFlags := 26, nameIndex := 61, descriptorIndex := 62, attributes := #[] }, { accessFlags := 26, nameIndex := 65, descriptorIndex := 62, attributes := #[] }, { accessFlags := 24, nameIndex := 430, descriptorIndex := 62, attributes := #[] }, { accessFlags := 4120, nameIndex := 46, descriptorIndex := 47, attributes := #[] }])
  fields := #[{ name := "HI_BYTE_SHIFT", type := .int, accessFlags := 26, slot := 0, constantValue := 0 }, { name := "LO_BYTE_SHIFT", type := .int, accessFlags := 26, slot := 1, constantValue := 0 }, { name := "MAX_LENGTH", type := .int, accessFlags := 24, slot := 2, constantValue := 0 }, { name := "$assertionsDisabled", type := .boolean, accessFlags := 4120, slot := 3, constantValue := 0 }]
  methods := #[k10m0, k10m1, k10m2, k10m3]
  instanceTypes := #[]
  staticTypes := #[.int, .int, .int, .boolean]
  resolved := Array.replicate 635 none
  statics := none }

def pool11 : Array CpInfo := pool [(1, .methodref 2 3), (0, .class_ 4), (0, .nameAndType 5 6), (0, u "java/lang/Object"), (0, u "<init>"), (0, u "()V"), (0, .fieldref 8 9), (0, .class_ 10), (0, .nameAndType 11 12), (0, u "com/example/clauses_to_controls/clausestocontrols/model/TailoredValue"), (0, u "component"), (0, u "Ljava/lang/String;"), (0, .fieldref 8 14), (0, .nameAndType 15 12), (0, u "parameter"), (0, .fieldref 8 17), (0, .nameAndType 18 12), (0, u "value"), (0, u "(Ljava/lang/String;Ljava/lang/String;Ljava/lang/String;)V"), (2, u "()Ljava/lang/String;")] 2

def k11c0 : Code := { maxStack := 2, maxLocals := 4, code := prog_30_method_1_code, exceptionTable := #[], attributes := #[] }
def k11m0 : Method := { name := "<init>", desc := "(Ljava/lang/String;Ljava/lang/String;Ljava/lang/String;)V", sig := { parameters := [(.object "java/lang/String"), (.object "java/lang/String"), (.object "java/lang/String")], returnType := none }, accessFlags := 1, code := some k11c0 }
def k11c1 : Code := { maxStack := 1, maxLocals := 1, code := prog_30_method_2_code, exceptionTable := #[], attributes := #[] }
def k11m1 : Method := { name := "component", desc := "()Ljava/lang/String;", sig := { parameters := [], returnType := some (.object "java/lang/String") }, accessFlags := 1, code := some k11c1 }
def k11c2 : Code := { maxStack := 1, maxLocals := 1, code := prog_30_method_3_code, exceptionTable := #[], attributes := #[] }
def k11m2 : Method := { name := "parameter", desc := "()Ljava/lang/String;", sig := { parameters := [], returnType := some (.object "java/lang/String") }, accessFlags := 1, code := some k11c2 }
/-- com/example/clauses_to_controls/clausestocontrols/model/TailoredValue -/
def k11 : Class := { plain "com/example/clauses_to_controls/clausestocontrols/model/TailoredValue" (some 0) with
  accessFlags := 49
  interfaces := #[]
  cf := some (fileOf pool11 8 #[] #[{ accessFlags := 1, nameIndex := 5, descriptorIndex := 19, attributes := #[] }, { accessFlags := 1, nameIndex := 11, descriptorIndex := 22, attributes := #[] }, { accessFlags := 1, nameIndex := 15, descriptorIndex := 22, attributes := #[] }] 49 2 #[] #[{ accessFlags := 18, nameIndex := 11, descriptorIndex := 12, attributes := #[] }, { accessFlags := 18, nameIndex := 15, descriptorIndex := 12, attributes := #[] }, { accessFlags := 18, nameIndex := 18, descriptorIndex := 12, attributes := #[] }])
  fields := #[{ name := "component", type := (.object "java/lang/String"), accessFlags := 18, slot := 0, constantValue := 0 }, { name := "parameter", type := (.object "java/lang/String"), accessFlags := 18, slot := 1, constantValue := 0 }, { name := "value", type := (.object "java/lang/String"), accessFlags := 18, slot := 2, constantValue := 0 }]
  methods := #[k11m0, k11m1, k11m2]
  instanceTypes := #[(.object "java/lang/String"), (.object "java/lang/String"), (.object "java/lang/String")]
  staticTypes := #[]
  resolved := Array.replicate 25 none
  statics := none }

def pool12 : Array CpInfo := pool [(1, .methodref 2 3), (0, .class_ 4), (0, .nameAndType 5 6), (0, u "java/lang/Object"), (0, u "<init>"), (0, u "()V"), (0, .fieldref 8 9), (0, .class_ 10), (0, .nameAndType 11 12), (0, u "com/example/clauses_to_controls/clausestocontrols/service/TailoringFinding"), (0, u "kind"), (0, u "Lcom/example/clauses_to_controls/clausestocontrols/service/TailoringFinding$Kind;"), (0, .fieldref 8 14), (0, .nameAndType 15 16), (0, u "component"), (0, u "Ljava/lang/String;"), (0, .fieldref 8 18), (0, .nameAndType 19 16), (0, u "parameter"), (0, .fieldref 8 21), (0, .nameAndType 22 16), (0, u "value"), (0, .fieldref 8 24), (0, .nameAndType 25 16), (0, u "standardValue"), (0, .methodref 27 28), (0, .class_ 29), (0, .nameAndType 15 30), (0, u "com/example/clauses_to_controls/clausestocontrols/model/TailoredValue"), (0, u "()Ljava/lang/String;"), (0, .methodref 27 32), (0, .nameAndType 19 30), (0, .methodref 8 34), (0, .nameAndType 5 35), (0, u "(Lcom/example/clauses_to_controls/clausestocontrols/service/TailoringFinding$Kind;Ljava/lang/String;Ljava/lang/String;Ljava/lang/String;Ljava/lang/String;)V"), (1, .class_ 39), (1, u "com/example/clauses_to_controls/clausestocontrols/service/TailoringFinding$Kind"), (9, .methodref 50 51), (0, .class_ 52), (0, .nameAndType 53 54), (0, u "java/util/Optional"), (0, u "ofNullable"), (0, u "(Ljava/lang/Object;)Ljava/util/Optional;"), (2, u "about"), (0, u "(Lcom/example/clauses_to_controls/clausestocontrols/service/TailoringFinding$Kind;Lcom/example/clauses_to_controls/clausestocontrols/model/TailoredValue;)Lcom/example/clauses_to_controls/clausestocontrols/service/TailoringFinding;"), (6, u "()Lcom/example/clauses_to_controls/clausestocontrols/service/TailoringFinding$Kind;"), (0, u "()Ljava/util/Optional;")] 7

def k12c0 : Code := { maxStack := 2, maxLocals := 6, code := prog_44_method_1_code, exceptionTable := #[], attributes := #[] }
def k12m0 : Method := { name := "<init>", desc := "(Lcom/example/clauses_to_controls/clausestocontrols/service/TailoringFinding$Kind;Ljava/lang/String;Ljava/lang/String;Ljava/lang/String;Ljava/lang/String;)V", sig := { parameters := [(.object "com/example/clauses_to_controls/clausestocontrols/service/TailoringFinding$Kind"), (.object "java/lang/String"), (.object "java/lang/String"), (.object "java/lang/String"), (.object "java/lang/String")], returnType := none }, accessFlags := 2, code := some k12c0 }
def k12c1 : Code := { maxStack := 7, maxLocals := 2, code := prog_44_method_2_code, exceptionTable := #[], attributes := #[] }
def k12m1 : Method := { name := "about", desc := "(Lcom/example/clauses_to_controls/clausestocontrols/service/TailoringFinding$Kind;Lcom/example/clauses_to_controls/clausestocontrols/model/TailoredValue;)Lcom/example/clauses_to_controls/clausestocontrols/service/TailoringFinding;", sig := { parameters := [(.object "com/example/clauses_to_controls/clausestocontrols/service/TailoringFinding$Kind"), (.object "com/example/clauses_to_controls/clausestocontrols/model/TailoredValue")], returnType := some (.object "com/example/clauses_to_controls/clausestocontrols/service/TailoringFinding") }, accessFlags := 8, code := some k12c1 }
def k12c2 : Code := { maxStack := 1, maxLocals := 1, code := prog_44_method_6_code, exceptionTable := #[], attributes := #[] }
def k12m2 : Method := { name := "kind", desc := "()Lcom/example/clauses_to_controls/clausestocontrols/service/TailoringFinding$Kind;", sig := { parameters := [], returnType := some (.object "com/example/clauses_to_controls/clausestocontrols/service/TailoringFinding$Kind") }, accessFlags := 1, code := some k12c2 }
def k12c3 : Code := { maxStack := 1, maxLocals := 1, code := prog_44_method_7_code, exceptionTable := #[], attributes := #[] }
def k12m3 : Method := { name := "component", desc := "()Ljava/lang/String;", sig := { parameters := [], returnType := some (.object "java/lang/String") }, accessFlags := 1, code := some k12c3 }
def k12c4 : Code := { maxStack := 1, maxLocals := 1, code := prog_44_method_8_code, exceptionTable := #[], attributes := #[] }
def k12m4 : Method := { name := "parameter", desc := "()Ljava/lang/String;", sig := { parameters := [], returnType := some (.object "java/lang/String") }, accessFlags := 1, code := some k12c4 }
def k12c5 : Code := { maxStack := 1, maxLocals := 1, code := prog_44_method_9_code, exceptionTable := #[], attributes := #[] }
def k12m5 : Method := { name := "value", desc := "()Ljava/util/Optional;", sig := { parameters := [], returnType := some (.object "java/util/Optional") }, accessFlags := 1, code := some k12c5 }
def k12c6 : Code := { maxStack := 1, maxLocals := 1, code := prog_44_method_10_code, exceptionTable := #[], attributes := #[] }
def k12m6 : Method := { name := "standardValue", desc := "()Ljava/util/Optional;", sig := { parameters := [], returnType := some (.object "java/util/Optional") }, accessFlags := 1, code := some k12c6 }
/-- com/example/clauses_to_controls/clausestocontrols/service/TailoringFinding -/
def k12 : Class := { plain "com/example/clauses_to_controls/clausestocontrols/service/TailoringFinding" (some 0) with
  accessFlags := 49
  interfaces := #[]
  cf := some (fileOf pool12 8 #[.nestMembers #[37]] #[{ accessFlags := 2, nameIndex := 5, descriptorIndex := 35, attributes := #[] }, { accessFlags := 8, nameIndex := 57, descriptorIndex := 58, attributes := #[] }, { accessFlags := 1, nameIndex := 11, descriptorIndex := 65, attributes := #[] }, { accessFlags := 1, nameIndex := 15, descriptorIndex := 30, attributes := #[] }, { accessFlags := 1, nameIndex := 19, descriptorIndex := 30, attributes := #[] }, { accessFlags := 1, nameIndex := 22, descriptorIndex := 66, attributes := #[] }, { accessFlags := 1, nameIndex := 25, descriptorIndex := 66, attributes := #[] }] 49 2 #[] #[{ accessFlags := 18, nameIndex := 11, descriptorIndex := 12, attributes := #[] }, { accessFlags := 18, nameIndex := 15, descriptorIndex := 16, attributes := #[] }, { accessFlags := 18, nameIndex := 19, descriptorIndex := 16, attributes := #[] }, { accessFlags := 18, nameIndex := 22, descriptorIndex := 16, attributes := #[] }, { accessFlags := 18, nameIndex := 25, descriptorIndex := 16, attributes := #[] }])
  fields := #[{ name := "kind", type := (.object "com/example/clauses_to_controls/clausestocontrols/service/TailoringFinding$Kind"), accessFlags := 18, slot := 0, constantValue := 0 }, { name := "component", type := (.object "java/lang/String"), accessFlags := 18, slot := 1, constantValue := 0 }, { name := "parameter", type := (.object "java/lang/String"), accessFlags := 18, slot := 2, constantValue := 0 }, { name := "value", type := (.object "java/lang/String"), accessFlags := 18, slot := 3, constantValue := 0 }, { name := "standardValue", type := (.object "java/lang/String"), accessFlags := 18, slot := 4, constantValue := 0 }]
  methods := #[k12m0, k12m1, k12m2, k12m3, k12m4, k12m5, k12m6]
  instanceTypes := #[(.object "com/example/clauses_to_controls/clausestocontrols/service/TailoringFinding$Kind"), (.object "java/lang/String"), (.object "java/lang/String"), (.object "java/lang/String"), (.object "java/lang/String")]
  staticTypes := #[]
  resolved := Array.replicate 74 none
  statics := none }

def pool13 : Array CpInfo := pool [(1, .fieldref 2 3), (0, .class_ 4), (0, .nameAndType 5 6), (0, u "java/util/Optional"), (0, u "EMPTY"), (0, u "Ljava/util/Optional;"), (1, .class_ 10), (1, u "java/lang/Object"), (2, .fieldref 2 14), (0, .nameAndType 15 16), (0, u "value"), (0, u "Ljava/lang/Object;"), (29, u "()Z"), (17, u "ofNullable"), (0, u "(Ljava/lang/Object;)Ljava/util/Optional;"), (2, u "isPresent")] 118

def k13c0 : Code := { maxStack := 3, maxLocals := 1, code := jdk_32_method_4_code, exceptionTable := #[], attributes := #[] }
def k13m0 : Method := { name := "ofNullable", desc := "(Ljava/lang/Object;)Ljava/util/Optional;", sig := { parameters := [(.object "java/lang/Object")], returnType := some (.object "java/util/Optional") }, accessFlags := 9, code := some k13c0 }
def k13c1 : Code := { maxStack := 1, maxLocals := 1, code := jdk_32_method_6_code, exceptionTable := #[], attributes := #[] }
def k13m1 : Method := { name := "isPresent", desc := "()Z", sig := { parameters := [], returnType := some .boolean }, accessFlags := 1, code := some k13c1 }
/-- java/util/Optional -/
def k13 : Class := { plain "java/util/Optional" (some 0) with
  accessFlags := 49
  interfaces := #[]
  cf := some (fileOf pool13 2 #[] #[{ accessFlags := 9, nameIndex := 64, descriptorIndex := 65, attributes := #[] }, { accessFlags := 1, nameIndex := 68, descriptorIndex := 46, attributes := #[] }] 49 8 #[] #[{ accessFlags := 26, nameIndex := 5, descriptorIndex := 6, attributes := #[] }, { accessFlags := 18, nameIndex := 15, descriptorIndex := 16, attributes := #[] }])
  fields := #[{ name := "EMPTY", type := (.object "java/util/Optional"), accessFlags := 26, slot := 0, constantValue := 0 }, { name := "value", type := (.object "java/lang/Object"), accessFlags := 18, slot := 0, constantValue := 0 }]
  methods := #[k13m0, k13m1]
  instanceTypes := #[(.object "java/lang/Object")]
  staticTypes := #[(.object "java/util/Optional")]
  resolved := Array.replicate 187 none
  statics := some 2 }

def pool14 : Array CpInfo := pool [(4, .class_ 6), (1, u "java/lang/Object"), (0, u "<init>"), (0, u "()V"), (5, .class_ 16), (1, u "java/lang/StringLatin1"), (104, u "$assertionsDisabled"), (0, u "Z"), (98, .class_ 223), (1, u "java/lang/StringLatin1$LinesSpliterator"), (166, .class_ 391), (0, u "java/lang/StringLatin1$CharsSpliterator")] 3

def k14m0 : Method := { name := "<init>", desc := "()V", sig := { parameters := [], returnType := none }, accessFlags := 0, code := none }
/-- java/lang/StringLatin1 -/
def k14 : Class := { plain "java/lang/StringLatin1" (some 0) with
  accessFlags := 48
  interfaces := #[]
  cf := some (fileOf pool14 14 #[.nestMembers #[390, 221]] #[{ accessFlags := 0, nameIndex := 7, descriptorIndex := 8, attributes := #[] }] 48 4 #[] #[{ accessFlags := 4120, nameIndex := 121, descriptorIndex := 122, attributes := #[] }])
  fields := #[{ name := "$assertionsDisabled", type := .boolean, accessFlags := 4120, slot := 0, constantValue := 0 }]
  methods := #[k14m0]
  instanceTypes := #[]
  staticTypes := #[.boolean]
  resolved := Array.replicate 395 none
  statics := none }

def pool15 : Array CpInfo := pool [(2, .class_ 4), (1, u "java/lang/Object"), (0, u "<init>"), (0, u "()V"), (17, .class_ 26), (1, u "jdk/internal/util/Preconditions"), (28, .class_ 56), (0, u "jdk/internal/util/Preconditions$4"), (57, .class_ 115), (0, u "jdk/internal/util/Preconditions$1"), (7, u "SIOOBE_FORMATTER"), (0, u "Ljava/util/function/BiFunction;"), (0, .class_ 126), (0, u "jdk/internal/util/Preconditions$2"), (3, u "AIOOBE_FORMATTER"), (0, .class_ 132), (0, u "jdk/internal/util/Preconditions$3"), (3, u "IOOBE_FORMATTER")] 57

def k15m0 : Method := { name := "<init>", desc := "()V", sig := { parameters := [], returnType := none }, accessFlags := 1, code := none }
/-- jdk/internal/util/Preconditions -/
def k15 : Class := { plain "jdk/internal/util/Preconditions" (some 0) with
  accessFlags := 33
  interfaces := #[]
  cf := some (fileOf pool15 24 #[.nestMembers #[55, 131, 125, 114]] #[{ accessFlags := 1, nameIndex := 5, descriptorIndex := 6, attributes := #[] }] 33 2 #[] #[{ accessFlags := 25, nameIndex := 123, descriptorIndex := 124, attributes := #[] }, { accessFlags := 25, nameIndex := 130, descriptorIndex := 124, attributes := #[] }, { accessFlags := 25, nameIndex := 136, descriptorIndex := 124, attributes := #[] }])
  fields := #[{ name := "SIOOBE_FORMATTER", type := (.object "java/util/function/BiFunction"), accessFlags := 25, slot := 0, constantValue := 0 }, { name := "AIOOBE_FORMATTER", type := (.object "java/util/function/BiFunction"), accessFlags := 25, slot := 1, constantValue := 0 }, { name := "IOOBE_FORMATTER", type := (.object "java/util/function/BiFunction"), accessFlags := 25, slot := 2, constantValue := 0 }]
  methods := #[k15m0]
  instanceTypes := #[]
  staticTypes := #[(.object "java/util/function/BiFunction"), (.object "java/util/function/BiFunction"), (.object "java/util/function/BiFunction")]
  resolved := Array.replicate 194 none
  statics := some 3 }

def pool16 : Array CpInfo := pool [(9, u "<init>"), (6, .class_ 18), (1, u "java/lang/Object"), (0, u "()V"), (1, .class_ 23), (1, u "jdk/internal/util/ArraysSupport"), (0, u "LOG2_ARRAY_LONG_INDEX_SCALE"), (0, u "I"), (2, u "U"), (0, u "Ljdk/internal/misc/Unsafe;"), (8, u "BIG_ENDIAN"), (0, u "Z"), (8, u "LOG2_BYTE_BIT_SIZE"), (4, u "LOG2_ARRAY_INT_INDEX_SCALE"), (54, u "JLA"), (0, u "Ljdk/internal/access/JavaLangAccess;"), (11, u "LOG2_ARRAY_BOOLEAN_INDEX_SCALE"), (9, u "LOG2_ARRAY_BYTE_INDEX_SCALE"), (5, u "LOG2_ARRAY_CHAR_INDEX_SCALE"), (5, u "LOG2_ARRAY_SHORT_INDEX_SCALE"), (18, u "LOG2_ARRAY_FLOAT_INDEX_SCALE"), (24, u "LOG2_ARRAY_DOUBLE_INDEX_SCALE"), (89, u "T_BOOLEAN"), (2, u "T_CHAR"), (1, u "T_FLOAT"), (1, u "T_DOUBLE"), (1, u "T_BYTE"), (1, u "T_SHORT"), (1, u "T_INT"), (1, u "T_LONG"), (1, u "SOFT_MAX_ARRAY_LENGTH")] 83

def k16m0 : Method := { name := "<init>", desc := "()V", sig := { parameters := [], returnType := none }, accessFlags := 2, code := none }
/-- jdk/internal/util/ArraysSupport -/
def k16 : Class := { plain "jdk/internal/util/ArraysSupport" (some 0) with
  accessFlags := 33
  interfaces := #[]
  cf := some (fileOf pool16 21 #[] #[{ accessFlags := 2, nameIndex := 9, descriptorIndex := 19, attributes := #[] }] 33 16 #[] #[{ accessFlags := 24, nameIndex := 28, descriptorIndex := 29, attributes := #[] }, { accessFlags := 26, nameIndex := 38, descriptorIndex := 39, attributes := #[] }, { accessFlags := 25, nameIndex := 121, descriptorIndex := 25, attributes := #[] }, { accessFlags := 25, nameIndex := 131, descriptorIndex := 25, attributes := #[] }, { accessFlags := 25, nameIndex := 137, descriptorIndex := 25, attributes := #[] }, { accessFlags := 25, nameIndex := 143, descriptorIndex := 25, attributes := #[] }, { accessFlags := 25, nameIndex := 53, descriptorIndex := 25, attributes := #[] }, { accessFlags := 25, nameIndex := 24, descriptorIndex := 25, attributes := #[] }, { accessFlags := 25, nameIndex := 162, descriptorIndex := 25, attributes := #[] }, { accessFlags := 25, nameIndex := 187, descriptorIndex := 25, attributes := #[] }, { accessFlags := 26, nameIndex := 48, descriptorIndex := 25, attributes := #[] }, { accessFlags := 25, nameIndex := 277, descriptorIndex := 25, attributes := #[] }, { accessFlags := 25, nameIndex := 280, descriptorIndex := 25, attributes := #[] }, { accessFlags := 25, nameIndex := 282, descriptorIndex := 25, attributes := #[] }, { accessFlags := 25, nameIndex := 284, descriptorIndex := 25, attributes := #[] }, { accessFlags := 25, nameIndex := 286, descriptorIndex := 25, attributes := #[] }, { accessFlags := 25, nameIndex := 288, descriptorIndex := 25, attributes := #[] }, { accessFlags := 25, nameIndex := 290, descriptorIndex := 25, attributes := #[] }, { accessFlags := 25, nameIndex := 292, descriptorIndex := 25, attributes := #[] }, { accessFlags := 26, nameIndex := 108, descriptorIndex := 109, attributes := #[] }, { accessFlags := 25, nameIndex := 294, descriptorIndex := 25, attributes := #[] }])
  fields := #[{ name := "U", type := (.object "jdk/internal/misc/Unsafe"), accessFlags := 24, slot := 0, constantValue := 0 }, { name := "BIG_ENDIAN", type := .boolean, accessFlags := 26, slot := 1, constantValue := 0 }, { name := "LOG2_ARRAY_BOOLEAN_INDEX_SCALE", type := .int, accessFlags := 25, slot := 2, constantValue := 0 }, { name := "LOG2_ARRAY_BYTE_INDEX_SCALE", type := .int, accessFlags := 25, slot := 3, constantValue := 0 }, { name := "LOG2_ARRAY_CHAR_INDEX_SCALE", type := .int, accessFlags := 25, slot := 4, constantValue := 0 }, { name := "LOG2_ARRAY_SHORT_INDEX_SCALE", type := .int, accessFlags := 25, slot := 5, constantValue := 0 }, { name := "LOG2_ARRAY_INT_INDEX_SCALE", type := .int, accessFlags := 25, slot := 6, constantValue := 0 }, { name := "LOG2_ARRAY_LONG_INDEX_SCALE", type := .int, accessFlags := 25, slot := 7, constantValue := 0 }, { name := "LOG2_ARRAY_FLOAT_INDEX_SCALE", type := .int, accessFlags := 25, slot := 8, constantValue := 0 }, { name := "LOG2_ARRAY_DOUBLE_INDEX_SCALE", type := .int, accessFlags := 25, slot := 9, constantValue := 0 }, { name := "LOG2_BYTE_BIT_SIZE", type := .int, accessFlags := 26, slot := 10, constantValue := 0 }, { name := "T_BOOLEAN", type := .int, accessFlags := 25, slot := 11, constantValue := 0 }, { name := "T_CHAR", type := .int, accessFlags := 25, slot := 12, constantValue := 0 }, { name := "T_FLOAT", type := .int, accessFlags := 25, slot := 13, constantValue := 0 }, { name := "T_DOUBLE", type := .int, accessFlags := 25, slot := 14, constantValue := 0 }, { name := "T_BYTE", type := .int, accessFlags := 25, slot := 15, constantValue := 0 }, { name := "T_SHORT", type := .int, accessFlags := 25, slot := 16, constantValue := 0 }, { name := "T_INT", type := .int, accessFlags := 25, slot := 17, constantValue := 0 }, { name := "T_LONG", type := .int, accessFlags := 25, slot := 18, constantValue := 0 }, { name := "JLA", type := (.object "jdk/internal/access/JavaLangAccess"), accessFlags := 26, slot := 19, constantValue := 0 }, { name := "SOFT_MAX_ARRAY_LENGTH", type := .int, accessFlags := 25, slot := 20, constantValue := 0 }]
  methods := #[k16m0]
  instanceTypes := #[]
  staticTypes := #[(.object "jdk/internal/misc/Unsafe"), .boolean, .int, .int, .int, .int, .int, .int, .int, .int, .int, .int, .int, .int, .int, .int, .int, .int, .int, (.object "jdk/internal/access/JavaLangAccess"), .int]
  resolved := Array.replicate 378 none
  statics := none }

def pool17 : Array CpInfo := pool [(1, u "java/lang/Cloneable"), (0, .class_ 1), (0, u "java/lang/Object"), (0, .class_ 3)] 3

/-- java/lang/Cloneable -/
def k17 : Class := { plain "java/lang/Cloneable" (some 0) with
  accessFlags := 1537
  interfaces := #[]
  cf := some (fileOf pool17 2 #[] #[] 1537 4 #[] #[])
  fields := #[]
  methods := #[]
  instanceTypes := #[]
  staticTypes := #[]
  resolved := Array.replicate 8 none
  statics := none }

/-- the primitive byte -/
def k18 : Class := { plain "byte" none with kind := .primitive 'B', accessFlags := 0x411 }
/-- [B -/
def k19 : Class := { plain "[B" (some 0) with kind := .array 18 .byte, interfaces := #[17, 4], accessFlags := 1041 }

/-- the primitive char -/
def k20 : Class := { plain "char" none with kind := .primitive 'C', accessFlags := 0x411 }
/-- [C -/
def k21 : Class := { plain "[C" (some 0) with kind := .array 20 .char, interfaces := #[17, 4], accessFlags := 1041 }

/-- the primitive int -/
def k22 : Class := { plain "int" none with kind := .primitive 'I', accessFlags := 0x411 }
/-- [I -/
def k23 : Class := { plain "[I" (some 0) with kind := .array 22 .int, interfaces := #[17, 4], accessFlags := 1041 }

def heap : Heap := #[{ cls := 6, slots := #[.ref 4, .ref 5, .ref 6, .ref 7, .ref 8, .ref 9, .null], vm := .statics 6 },
  { cls := 9, slots := #[.long 0, .int 1, .null, .int 0, .null, .int 0, .int 0], vm := .statics 9 },
  { cls := 13, slots := #[.ref 10], vm := .statics 13 },
  { cls := 15, slots := #[.null, .null, .null], vm := .statics 15 },
  { cls := 6, slots := #[.null, .int 0, .int 0], vm := .none },
  { cls := 6, slots := #[.null, .int 1, .int 0], vm := .none },
  { cls := 6, slots := #[.null, .int 2, .int 0], vm := .none },
  { cls := 6, slots := #[.null, .int 3, .int 0], vm := .none },
  { cls := 6, slots := #[.null, .int 4, .int 0], vm := .none },
  { cls := 6, slots := #[.null, .int 5, .int 0], vm := .none },
  { cls := 13, slots := #[.null], vm := .none }]
def classes : Array Class := #[k0, k1, k2, k3, k4, k5, k6, k7, k8, k9, k10, k11, k12, k13, k14, k15, k16, k17, k18, k19, k20, k21, k22, k23]
def interned : List (Array UInt16 × Addr) := []
def slotsUsed : Nat := 37
def theMethod : MethodId := ⟨1, 3⟩
def args0 : Array Value := #[.int 3, .int 65, .int 70, .int 71]
def aboutOver (below : List Frame) : State where
  vm := { classes := classes, interned := interned.toArray }
  heap := heap
  slotsUsed := slotsUsed
  threads := #[{ frames := .invoking theMethod args0 :: below }]
def below0 : List Frame := [.native { method := ⟨0, 0⟩, args := #[] }]
def about1 : State := aboutOver below0
def p0 : Program := .bare "" "" ""
def e0 : Env := launch0.env 0 0 0
theorem w_frames : about1.frames = Frame.invoking theMethod args0 :: below0 := rfl
set_option maxRecDepth 65536 in
theorem w_args : argsFit about1.vm theMethod args0 = true := by decide +kernel
set_option maxRecDepth 65536 in
theorem w_heap : heapFits about1 = true := by decide +kernel
set_option maxRecDepth 65536 in
theorem w_runnable : about1.curStatus? = some .runnable := by decide +kernel
set_option maxRecDepth 65536 in
theorem w_alone : about1.alone = true := by decide +kernel
set_option maxRecDepth 65536 in
theorem w_named : about1.methodNamed? x = some theMethod := by decide +kernel
set_option maxRecDepth 65536 in
theorem w_hears : about1.hears theMethod below0 = true := by decide +kernel
set_option maxRecDepth 65536 in
theorem w_ripe : about1.ripe theMethod args0 below0 = true := by decide +kernel
theorem w_running : about1.status = .running := rfl
set_option maxRecDepth 65536 in
theorem w_room : about1.hasRoom e0.platform room_1 = true :=
  launch0.hasRoom_least _ room_1 (by decide +kernel) (by decide +kernel) (by decide +kernel) (by decide +kernel) (by decide +kernel) (by decide +kernel)
theorem allAtoms_all (ts : List Jvm.Cond) (a : Array Jvm.Value) (st : Jvm.State) : (allAtoms ts).before a st = ts.all (fun c => c.before a st) := by
  induction ts with
  | nil => rfl
  | cons c t ih =>
    show (Jvm.Cond.and c (allAtoms t)).before a st = _
    rw [Jvm.Cond.before_and, ih, List.all_cons]
def words1 : List Jvm.Cond := Jvm.Cond.code x code maxLocals ret :: tables_1
/-- a 'code' word, met by the world's own term for the bytes: nothing is compared byte by byte -/
theorem code_word {y : MethodName} {bytes : ByteArray} {mx : Nat} {rt : Option FieldType} {a : Array Value} {s : State} {m : MethodId} {meth : Method} {c : Code} (h1 : s.methodNamed? y = some m) (h2 : s.vm.method? m = some meth) (h3 : meth.code = some c) (h4 : c.code = bytes)
    (h5 : (c.maxLocals == mx && c.exceptionTable.isEmpty && decide (c.maxStack ≤ mostOperands) && decide (meth.sig.returnType = rt) && !meth.locks && decide (parseMethodDescriptor y.desc = some meth.sig)) = true) : (Jvm.Cond.code y bytes mx rt).before a s = true := by
  simp only [Bool.and_eq_true, beq_iff_eq, Bool.not_eq_true', decide_eq_true_eq] at h5
  obtain ⟨⟨⟨⟨⟨g1, g2⟩, g3⟩, g4⟩, g5⟩, g6⟩ := h5
  simp [Cond.before, Cond.holds, Cond.value, h1, h2, h3, h4, g1, g2, g3, g4, g5, g6]
def isCode : Jvm.Cond → Bool
  | .code _ _ _ _ => true
  | _ => false
theorem all_split {L : List Jvm.Cond} {P : Jvm.Cond → Bool} (h1 : L.all (fun c => isCode c || P c) = true) (h2 : ∀ c ∈ L.filter isCode, P c = true) : L.all P = true := by
  refine List.all_eq_true.mpr fun c hc => ?_
  have h := List.all_eq_true.mp h1 c hc
  rcases Bool.eq_false_or_eq_true (isCode c) with hi | hi
  · exact h2 c (List.mem_filter.mpr ⟨hc, hi⟩)
  · simpa [hi] using h
set_option maxRecDepth 65536 in
theorem w_c0 : (Jvm.Cond.code x code maxLocals ret).before args0 about1 = true := code_word (m := ⟨1, 3⟩) (meth := k1m3) (c := k1c3) (by decide +kernel) rfl rfl rfl (by decide +kernel)
set_option maxRecDepth 65536 in
theorem w_c1 : (Jvm.Cond.code ({ cls := "com/example/clauses_to_controls/clausestocontrols/service/TailoringFindingAboutPinLaw", name := "kindOf", desc := "(I)Lcom/example/clauses_to_controls/clausestocontrols/service/TailoringFinding$Kind;" } : Jvm.MethodName) method_2_code (1 : Nat) (Option.some (Jvm.ClassFile.FieldType.object "com/example/clauses_to_controls/clausestocontrols/service/TailoringFinding$Kind"))).before args0 about1 = true := code_word (m := ⟨1, 1⟩) (meth := k1m1) (c := k1c1) (by decide +kernel) rfl rfl rfl (by decide +kernel)
set_option maxRecDepth 65536 in
theorem w_c2 : (Jvm.Cond.code ({ cls := "com/example/clauses_to_controls/clausestocontrols/service/TailoringFindingAboutPinLaw", name := "draw", desc := "(I)Ljava/lang/String;" } : Jvm.MethodName) method_3_code (2 : Nat) (Option.some (Jvm.ClassFile.FieldType.object "java/lang/String"))).before args0 about1 = true := code_word (m := ⟨1, 2⟩) (meth := k1m2) (c := k1c2) (by decide +kernel) rfl rfl rfl (by decide +kernel)
set_option maxRecDepth 65536 in
theorem w_c3 : (Jvm.Cond.code ({ cls := "java/lang/String", name := "<init>", desc := "([C)V" } : Jvm.MethodName) jdk_42_method_3_code (2 : Nat) (Option.none : Option Jvm.ClassFile.FieldType)).before args0 about1 = true := code_word (m := ⟨9, 1⟩) (meth := k9m1) (c := k9c1) (by decide +kernel) rfl rfl rfl (by decide +kernel)
set_option maxRecDepth 65536 in
theorem w_c4 : (Jvm.Cond.code ({ cls := "java/lang/String", name := "<init>", desc := "([CIILjava/lang/Void;)V" } : Jvm.MethodName) jdk_42_method_149_code (6 : Nat) (Option.none : Option Jvm.ClassFile.FieldType)).before args0 about1 = true := code_word (m := ⟨9, 3⟩) (meth := k9m3) (c := k9c3) (by decide +kernel) rfl rfl rfl (by decide +kernel)
set_option maxRecDepth 65536 in
theorem w_c5 : (Jvm.Cond.code ({ cls := "java/lang/Object", name := "<init>", desc := "()V" } : Jvm.MethodName) object_method_1_code (1 : Nat) (Option.none : Option Jvm.ClassFile.FieldType)).before args0 about1 = true := code_word (m := ⟨0, 0⟩) (meth := k0m0) (c := k0c0) (by decide +kernel) rfl rfl rfl (by decide +kernel)
set_option maxRecDepth 65536 in
theorem w_c6 : (Jvm.Cond.code ({ cls := "java/lang/StringUTF16", name := "compress", desc := "([CII)[B" } : Jvm.MethodName) jdk_52_method_16_code (6 : Nat) (Option.some (Jvm.ClassFile.FieldType.array Jvm.ClassFile.FieldType.byte))).before args0 about1 = true := code_word (m := ⟨10, 2⟩) (meth := k10m2) (c := k10c2) (by decide +kernel) rfl rfl rfl (by decide +kernel)
set_option maxRecDepth 65536 in
theorem w_c7 : (Jvm.Cond.code ({ cls := "java/lang/StringUTF16", name := "compress", desc := "([CI[BII)I" } : Jvm.MethodName) jdk_52_method_21_code (7 : Nat) (Option.some Jvm.ClassFile.FieldType.int)).before args0 about1 = true := code_word (m := ⟨10, 3⟩) (meth := k10m3) (c := k10c3) (by decide +kernel) rfl rfl rfl (by decide +kernel)
set_option maxRecDepth 65536 in
theorem w_c8 : (Jvm.Cond.code ({ cls := "java/lang/StringUTF16", name := "coderFromArrayLen", desc := "([BI)B" } : Jvm.MethodName) jdk_52_method_15_code (2 : Nat) (Option.some Jvm.ClassFile.FieldType.byte)).before args0 about1 = true := code_word (m := ⟨10, 1⟩) (meth := k10m1) (c := k10c1) (by decide +kernel) rfl rfl rfl (by decide +kernel)
set_option maxRecDepth 65536 in
theorem w_c9 : (Jvm.Cond.code ({ cls := "com/example/clauses_to_controls/clausestocontrols/model/TailoredValue", name := "<init>", desc := "(Ljava/lang/String;Ljava/lang/String;Ljava/lang/String;)V" } : Jvm.MethodName) prog_30_method_1_code (4 : Nat) (Option.none : Option Jvm.ClassFile.FieldType)).before args0 about1 = true := code_word (m := ⟨11, 0⟩) (meth := k11m0) (c := k11c0) (by decide +kernel) rfl rfl rfl (by decide +kernel)
set_option maxRecDepth 65536 in
theorem w_c10 : (Jvm.Cond.code ({ cls := "com/example/clauses_to_controls/clausestocontrols/service/TailoringFinding", name := "about", desc := "(Lcom/example/clauses_to_controls/clausestocontrols/service/TailoringFinding$Kind;Lcom/example/clauses_to_controls/clausestocontrols/model/TailoredValue;)Lcom/example/clauses_to_controls/clausestocontrols/service/TailoringFinding;" } : Jvm.MethodName) prog_44_method_2_code (2 : Nat) (Option.some (Jvm.ClassFile.FieldType.object "com/example/clauses_to_controls/clausestocontrols/service/TailoringFinding"))).before args0 about1 = true := code_word (m := ⟨12, 1⟩) (meth := k12m1) (c := k12c1) (by decide +kernel) rfl rfl rfl (by decide +kernel)
set_option maxRecDepth 65536 in
theorem w_c11 : (Jvm.Cond.code ({ cls := "com/example/clauses_to_controls/clausestocontrols/model/TailoredValue", name := "component", desc := "()Ljava/lang/String;" } : Jvm.MethodName) prog_30_method_2_code (1 : Nat) (Option.some (Jvm.ClassFile.FieldType.object "java/lang/String"))).before args0 about1 = true := code_word (m := ⟨11, 1⟩) (meth := k11m1) (c := k11c1) (by decide +kernel) rfl rfl rfl (by decide +kernel)
set_option maxRecDepth 65536 in
theorem w_c12 : (Jvm.Cond.code ({ cls := "com/example/clauses_to_controls/clausestocontrols/model/TailoredValue", name := "parameter", desc := "()Ljava/lang/String;" } : Jvm.MethodName) prog_30_method_3_code (1 : Nat) (Option.some (Jvm.ClassFile.FieldType.object "java/lang/String"))).before args0 about1 = true := code_word (m := ⟨11, 2⟩) (meth := k11m2) (c := k11c2) (by decide +kernel) rfl rfl rfl (by decide +kernel)
set_option maxRecDepth 65536 in
theorem w_c13 : (Jvm.Cond.code ({ cls := "com/example/clauses_to_controls/clausestocontrols/service/TailoringFinding", name := "<init>", desc := "(Lcom/example/clauses_to_controls/clausestocontrols/service/TailoringFinding$Kind;Ljava/lang/String;Ljava/lang/String;Ljava/lang/String;Ljava/lang/String;)V" } : Jvm.MethodName) prog_44_method_1_code (6 : Nat) (Option.none : Option Jvm.ClassFile.FieldType)).before args0 about1 = true := code_word (m := ⟨12, 0⟩) (meth := k12m0) (c := k12c0) (by decide +kernel) rfl rfl rfl (by decide +kernel)
set_option maxRecDepth 65536 in
theorem w_c14 : (Jvm.Cond.code ({ cls := "com/example/clauses_to_controls/clausestocontrols/service/TailoringFinding", name := "kind", desc := "()Lcom/example/clauses_to_controls/clausestocontrols/service/TailoringFinding$Kind;" } : Jvm.MethodName) prog_44_method_6_code (1 : Nat) (Option.some (Jvm.ClassFile.FieldType.object "com/example/clauses_to_controls/clausestocontrols/service/TailoringFinding$Kind"))).before args0 about1 = true := code_word (m := ⟨12, 2⟩) (meth := k12m2) (c := k12c2) (by decide +kernel) rfl rfl rfl (by decide +kernel)
set_option maxRecDepth 65536 in
theorem w_c15 : (Jvm.Cond.code ({ cls := "com/example/clauses_to_controls/clausestocontrols/service/TailoringFinding", name := "component", desc := "()Ljava/lang/String;" } : Jvm.MethodName) prog_44_method_7_code (1 : Nat) (Option.some (Jvm.ClassFile.FieldType.object "java/lang/String"))).before args0 about1 = true := code_word (m := ⟨12, 3⟩) (meth := k12m3) (c := k12c3) (by decide +kernel) rfl rfl rfl (by decide +kernel)
set_option maxRecDepth 65536 in
theorem w_c16 : (Jvm.Cond.code ({ cls := "java/lang/String", name := "equals", desc := "(Ljava/lang/Object;)Z" } : Jvm.MethodName) jdk_42_method_66_code (3 : Nat) (Option.some Jvm.ClassFile.FieldType.boolean)).before args0 about1 = true := code_word (m := ⟨9, 2⟩) (meth := k9m2) (c := k9c2) (by decide +kernel) rfl rfl rfl (by decide +kernel)
set_option maxRecDepth 65536 in
theorem w_c17 : (Jvm.Cond.code ({ cls := "com/example/clauses_to_controls/clausestocontrols/service/TailoringFinding", name := "parameter", desc := "()Ljava/lang/String;" } : Jvm.MethodName) prog_44_method_8_code (1 : Nat) (Option.some (Jvm.ClassFile.FieldType.object "java/lang/String"))).before args0 about1 = true := code_word (m := ⟨12, 4⟩) (meth := k12m4) (c := k12c4) (by decide +kernel) rfl rfl rfl (by decide +kernel)
set_option maxRecDepth 65536 in
theorem w_c18 : (Jvm.Cond.code ({ cls := "com/example/clauses_to_controls/clausestocontrols/service/TailoringFinding", name := "value", desc := "()Ljava/util/Optional;" } : Jvm.MethodName) prog_44_method_9_code (1 : Nat) (Option.some (Jvm.ClassFile.FieldType.object "java/util/Optional"))).before args0 about1 = true := code_word (m := ⟨12, 5⟩) (meth := k12m5) (c := k12c5) (by decide +kernel) rfl rfl rfl (by decide +kernel)
set_option maxRecDepth 65536 in
theorem w_c19 : (Jvm.Cond.code ({ cls := "java/util/Optional", name := "ofNullable", desc := "(Ljava/lang/Object;)Ljava/util/Optional;" } : Jvm.MethodName) jdk_32_method_4_code (1 : Nat) (Option.some (Jvm.ClassFile.FieldType.object "java/util/Optional"))).before args0 about1 = true := code_word (m := ⟨13, 0⟩) (meth := k13m0) (c := k13c0) (by decide +kernel) rfl rfl rfl (by decide +kernel)
set_option maxRecDepth 65536 in
theorem w_c20 : (Jvm.Cond.code ({ cls := "java/util/Optional", name := "isPresent", desc := "()Z" } : Jvm.MethodName) jdk_32_method_6_code (1 : Nat) (Option.some Jvm.ClassFile.FieldType.boolean)).before args0 about1 = true := code_word (m := ⟨13, 1⟩) (meth := k13m1) (c := k13c1) (by decide +kernel) rfl rfl rfl (by decide +kernel)
set_option maxRecDepth 65536 in
theorem w_c21 : (Jvm.Cond.code ({ cls := "com/example/clauses_to_controls/clausestocontrols/service/TailoringFinding", name := "standardValue", desc := "()Ljava/util/Optional;" } : Jvm.MethodName) prog_44_method_10_code (1 : Nat) (Option.some (Jvm.ClassFile.FieldType.object "java/util/Optional"))).before args0 about1 = true := code_word (m := ⟨12, 6⟩) (meth := k12m6) (c := k12c6) (by decide +kernel) rfl rfl rfl (by decide +kernel)
def codes1 : List Jvm.Cond := [Jvm.Cond.code x code maxLocals ret, Jvm.Cond.code ({ cls := "com/example/clauses_to_controls/clausestocontrols/service/TailoringFindingAboutPinLaw", name := "kindOf", desc := "(I)Lcom/example/clauses_to_controls/clausestocontrols/service/TailoringFinding$Kind;" } : Jvm.MethodName) method_2_code (1 : Nat) (Option.some (Jvm.ClassFile.FieldType.object "com/example/clauses_to_controls/clausestocontrols/service/TailoringFinding$Kind")), Jvm.Cond.code ({ cls := "com/example/clauses_to_controls/clausestocontrols/service/TailoringFindingAboutPinLaw", name := "draw", desc := "(I)Ljava/lang/String;" } : Jvm.MethodName) method_3_code (2 : Nat) (Option.some (Jvm.ClassFile.FieldType.object "java/lang/String")), Jvm.Cond.code ({ cls := "java/lang/String", name := "<init>", desc := "([C)V" } : Jvm.MethodName) jdk_42_method_3_code (2 : Nat) (Option.none : Option Jvm.ClassFile.FieldType), Jvm.Cond.code ({ cls := "java/lang/String", name := "<init>", desc := "([CIILjava/lang/Void;)V" } : Jvm.MethodName) jdk_42_method_149_code (6 : Nat) (Option.none : Option Jvm.ClassFile.FieldType), Jvm.Cond.code ({ cls := "java/lang/Object", name := "<init>", desc := "()V" } : Jvm.MethodName) object_method_1_code (1 : Nat) (Option.none : Option Jvm.ClassFile.FieldType), Jvm.Cond.code ({ cls := "java/lang/StringUTF16", name := "compress", desc := "([CII)[B" } : Jvm.MethodName) jdk_52_method_16_code (6 : Nat) (Option.some (Jvm.ClassFile.FieldType.array Jvm.ClassFile.FieldType.byte)), Jvm.Cond.code ({ cls := "java/lang/StringUTF16", name := "compress", desc := "([CI[BII)I" } : Jvm.MethodName) jdk_52_method_21_code (7 : Nat) (Option.some Jvm.ClassFile.FieldType.int), Jvm.Cond.code ({ cls := "java/lang/StringUTF16", name := "coderFromArrayLen", desc := "([BI)B" } : Jvm.MethodName) jdk_52_method_15_code (2 : Nat) (Option.some Jvm.ClassFile.FieldType.byte), Jvm.Cond.code ({ cls := "com/example/clauses_to_controls/clausestocontrols/model/TailoredValue", name := "<init>", desc := "(Ljava/lang/String;Ljava/lang/String;Ljava/lang/String;)V" } : Jvm.MethodName) prog_30_method_1_code (4 : Nat) (Option.none : Option Jvm.ClassFile.FieldType), Jvm.Cond.code ({ cls := "com/example/clauses_to_controls/clausestocontrols/service/TailoringFinding", name := "about", desc := "(Lcom/example/clauses_to_controls/clausestocontrols/service/TailoringFinding$Kind;Lcom/example/clauses_to_controls/clausestocontrols/model/TailoredValue;)Lcom/example/clauses_to_controls/clausestocontrols/service/TailoringFinding;" } : Jvm.MethodName) prog_44_method_2_code (2 : Nat) (Option.some (Jvm.ClassFile.FieldType.object "com/example/clauses_to_controls/clausestocontrols/service/TailoringFinding")), Jvm.Cond.code ({ cls := "com/example/clauses_to_controls/clausestocontrols/model/TailoredValue", name := "component", desc := "()Ljava/lang/String;" } : Jvm.MethodName) prog_30_method_2_code (1 : Nat) (Option.some (Jvm.ClassFile.FieldType.object "java/lang/String")), Jvm.Cond.code ({ cls := "com/example/clauses_to_controls/clausestocontrols/model/TailoredValue", name := "parameter", desc := "()Ljava/lang/String;" } : Jvm.MethodName) prog_30_method_3_code (1 : Nat) (Option.some (Jvm.ClassFile.FieldType.object "java/lang/String")), Jvm.Cond.code ({ cls := "com/example/clauses_to_controls/clausestocontrols/service/TailoringFinding", name := "<init>", desc := "(Lcom/example/clauses_to_controls/clausestocontrols/service/TailoringFinding$Kind;Ljava/lang/String;Ljava/lang/String;Ljava/lang/String;Ljava/lang/String;)V" } : Jvm.MethodName) prog_44_method_1_code (6 : Nat) (Option.none : Option Jvm.ClassFile.FieldType), Jvm.Cond.code ({ cls := "com/example/clauses_to_controls/clausestocontrols/service/TailoringFinding", name := "kind", desc := "()Lcom/example/clauses_to_controls/clausestocontrols/service/TailoringFinding$Kind;" } : Jvm.MethodName) prog_44_method_6_code (1 : Nat) (Option.some (Jvm.ClassFile.FieldType.object "com/example/clauses_to_controls/clausestocontrols/service/TailoringFinding$Kind")), Jvm.Cond.code ({ cls := "com/example/clauses_to_controls/clausestocontrols/service/TailoringFinding", name := "component", desc := "()Ljava/lang/String;" } : Jvm.MethodName) prog_44_method_7_code (1 : Nat) (Option.some (Jvm.ClassFile.FieldType.object "java/lang/String")), Jvm.Cond.code ({ cls := "java/lang/String", name := "equals", desc := "(Ljava/lang/Object;)Z" } : Jvm.MethodName) jdk_42_method_66_code (3 : Nat) (Option.some Jvm.ClassFile.FieldType.boolean), Jvm.Cond.code ({ cls := "com/example/clauses_to_controls/clausestocontrols/service/TailoringFinding", name := "parameter", desc := "()Ljava/lang/String;" } : Jvm.MethodName) prog_44_method_8_code (1 : Nat) (Option.some (Jvm.ClassFile.FieldType.object "java/lang/String")), Jvm.Cond.code ({ cls := "com/example/clauses_to_controls/clausestocontrols/service/TailoringFinding", name := "value", desc := "()Ljava/util/Optional;" } : Jvm.MethodName) prog_44_method_9_code (1 : Nat) (Option.some (Jvm.ClassFile.FieldType.object "java/util/Optional")), Jvm.Cond.code ({ cls := "java/util/Optional", name := "ofNullable", desc := "(Ljava/lang/Object;)Ljava/util/Optional;" } : Jvm.MethodName) jdk_32_method_4_code (1 : Nat) (Option.some (Jvm.ClassFile.FieldType.object "java/util/Optional")), Jvm.Cond.code ({ cls := "java/util/Optional", name := "isPresent", desc := "()Z" } : Jvm.MethodName) jdk_32_method_6_code (1 : Nat) (Option.some Jvm.ClassFile.FieldType.boolean), Jvm.Cond.code ({ cls := "com/example/clauses_to_controls/clausestocontrols/service/TailoringFinding", name := "standardValue", desc := "()Ljava/util/Optional;" } : Jvm.MethodName) prog_44_method_10_code (1 : Nat) (Option.some (Jvm.ClassFile.FieldType.object "java/util/Optional"))]
set_option maxRecDepth 65536 in
theorem codes_eq : words1.filter isCode = codes1 := rfl
theorem w_codes : ∀ c ∈ words1.filter isCode, c.before args0 about1 = true := by
  rw [codes_eq]
  intro c hc
  simp only [codes1, List.mem_cons, List.not_mem_nil, or_false] at hc
  rcases hc with rfl | rfl | rfl | rfl | rfl | rfl | rfl | rfl | rfl | rfl | rfl | rfl | rfl | rfl | rfl | rfl | rfl | rfl | rfl | rfl | rfl | rfl
  · exact w_c0
  · exact w_c1
  · exact w_c2
  · exact w_c3
  · exact w_c4
  · exact w_c5
  · exact w_c6
  · exact w_c7
  · exact w_c8
  · exact w_c9
  · exact w_c10
  · exact w_c11
  · exact w_c12
  · exact w_c13
  · exact w_c14
  · exact w_c15
  · exact w_c16
  · exact w_c17
  · exact w_c18
  · exact w_c19
  · exact w_c20
  · exact w_c21
set_option maxRecDepth 65536 in
theorem w_t1 : (words1.take 24).all (fun c => isCode c || c.before args0 about1) = true := by decide +kernel
set_option maxRecDepth 65536 in
theorem w_t2 : ((words1.drop 24).take 24).all (fun c => isCode c || c.before args0 about1) = true := by decide +kernel
set_option maxRecDepth 65536 in
theorem w_t3 : (((words1.drop 24).drop 24).take 24).all (fun c => isCode c || c.before args0 about1) = true := by decide +kernel
set_option maxRecDepth 65536 in
theorem w_t4 : ((((words1.drop 24).drop 24).drop 24).take 24).all (fun c => isCode c || c.before args0 about1) = true := by decide +kernel
set_option maxRecDepth 65536 in
theorem w_t5 : (((((words1.drop 24).drop 24).drop 24).drop 24).take 24).all (fun c => isCode c || c.before args0 about1) = true := by decide +kernel
set_option maxRecDepth 65536 in
theorem w_t6 : (((((words1.drop 24).drop 24).drop 24).drop 24).drop 24).all (fun c => isCode c || c.before args0 about1) = true := by decide +kernel
theorem w_tables : (allAtoms (Jvm.Cond.code x code maxLocals ret :: tables_1)).before args0 about1 = true := by
  rw [allAtoms_all]
  show words1.all (fun c => c.before args0 about1) = true
  refine all_split ?_ w_codes
  rw [← List.take_append_drop 24 words1, List.all_append, w_t1, ← List.take_append_drop 24 (words1.drop 24), List.all_append, w_t2, ← List.take_append_drop 24 ((words1.drop 24).drop 24), List.all_append, w_t3, ← List.take_append_drop 24 (((words1.drop 24).drop 24).drop 24), List.all_append, w_t4, ← List.take_append_drop 24 ((((words1.drop 24).drop 24).drop 24).drop 24), List.all_append, w_t5, w_t6]
  rfl
set_option maxRecDepth 65536 in
theorem w_rest : rest_1_c.before args0 about1 = true := by decide +kernel
set_option maxRecDepth 65536 in
theorem w_case : (Jvm.Cond.and given_1 narrow_1).before args0 about1 = true := by decide +kernel
theorem w_applies : (headSpec (Jvm.Cond.code x code maxLocals ret :: tables_1) room_1).applies x e0.platform about1 = true :=
  (Spec.applies_iff w_frames).mpr ⟨w_running, w_runnable, w_alone, w_named, w_hears, w_ripe, w_room, w_tables⟩
theorem atStart : AtStart classFile x code maxLocals ret World_1 tables_1 room_1 Calls_1 rest_1 Pre_1 launch0 p0 e0 about1 theMethod args0 below0 :=
  ⟨lists_1, trivial, launch0.admits_env _ _ _, launch0.least_env, fairChoices_fair.cas, fairChoices_fair.clock, w_frames, w_args, w_heap, w_applies, trivial, w_rest, w_case⟩
end start1
theorem witness_1 : WitnessClaimed_1 := ⟨start1.p0, start1.e0, start1.about1, start1.theMethod, start1.args0, start1.below0, start1.atStart⟩
end Jvm.Pilot.@@N@@
