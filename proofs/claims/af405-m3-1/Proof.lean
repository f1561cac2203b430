import JvmDerived
import JvmDerived.Pilot.@@N@@Statement
import JvmDerived.Pilot.@@N@@Code
set_option linter.unusedVariables false
set_option linter.unusedSimpArgs false
/- laws to paste: Road.backV (cut by pick.py; bodies as the Statement names them) -/
namespace Jvm.Pilot.@@N@@
namespace StrChars
open Jvm Sem ClassFile Op Lib Jvm.Stand Jvm.Free.XT Jvm.Free.ALB Jvm.Free.JM Jvm.Free
open Jvm.Lib.Cold (StaticIs)
/-- a char array whose places are chars -/
def Ch (a : Addr) (A : Cell) (U : State) : Prop := Arr .char a A U ∧ Typed .char A
theorem Ch.mv {a : Addr} {A : Cell} {U U' : State} (h : Ch a A U) (hal : U.vm.Alike U'.vm) (hh : U'.heap = U.heap) : Ch a A U' := ⟨h.1.mv hal hh, h.2⟩
theorem Ch.keep {a : Addr} {A : Cell} {U U' : State} (h : Ch a A U) (hal : U.vm.Alike U'.vm) (hk : U'.heap[a]? = some A) : Ch a A U' := ⟨h.1.keep hal hk, h.2⟩
/-- what place i of a char[]'s cell holds -/
def cv (A : Cell) (i : Nat) : Int32 := match A.slots[i]? with | some (.int x) => x | _ => 0
theorem Ch.get {a : Addr} {A : Cell} {U : State} (h : Ch a A U) {i : Nat} (hi : i < A.slots.size) : A.slots[i]? = some (.int (cv A i)) := by
  have e := Array.getElem?_eq_getElem hi
  have f := h.2 i _ e
  unfold cv; rw [e]
  generalize A.slots[i] = v at f
  cases v <;> simp [fits] at f ⊢
/-- the byte that i2b leaves of a char -/
def lo8 (x : Int32) : Int32 := x.toInt8.toInt32
theorem fits_lo8 (y : Int32) : fits .byte (.int (lo8 y)) = true := by
  have h1 := y.toInt8.le_toInt
  have h2 := y.toInt8.toInt_lt
  simp only [lo8, fits, Bool.and_eq_true, decide_eq_true_eq, Int32.le_iff_toInt_le, Int8.toInt_toInt32, show (-128 : Int32).toInt = -128 from by decide, show (127 : Int32).toInt = 127 from by decide]
  omega
/-- A' is A but that each place j of lo .. hi - 1 holds f j -/
def Laid (A A' : Cell) (lo hi : Nat) (f : Nat → Value) : Prop := A'.cls = A.cls ∧ A'.vm = A.vm ∧ A'.slots.size = A.slots.size ∧ ∀ i, A'.slots[i]? = if lo ≤ i ∧ i < hi then some (f i) else A.slots[i]?
theorem Laid.zero (A : Cell) (lo : Nat) (f : Nat → Value) : Laid A A lo (lo + 0) f := ⟨rfl, rfl, rfl, fun i => by rw [if_neg (by omega)]⟩
theorem Laid.step {A Ak : Cell} {lo k : Nat} {f : Nat → Value} {v : Value} (h : Laid A Ak lo k f) (hlo : lo ≤ k) (hk : k < Ak.slots.size) (hv : v = f k) : Laid A (Ak.setSlot k v) lo (k + 1) f := by
  refine ⟨h.1, h.2.1, by simpa [Cell.setSlot] using h.2.2.1, fun i => ?_⟩
  by_cases e : k = i
  · subst e; rw [Cell.slots_setSlot_self v hk, if_pos (by omega), hv]
  · rw [Cell.slots_setSlot_ne v e, h.2.2.2 i]
    by_cases q : lo ≤ i ∧ i < k
    · rw [if_pos q, if_pos (by omega)]
    · rw [if_neg q, if_neg (by omega)]
def U16 : String := "java/lang/StringUTF16"
namespace Cmp5
def yN : MethodName := ⟨"java/lang/StringUTF16", "compress", "([CI[BII)I"⟩
abbrev yB : ByteArray := jdk_52_method_21_code
theorem d0 : decode yB 0 = .ok (.iconst 0, 1) := by decide +kernel
theorem d1 : decode yB 1 = .ok (.istore 5, 2) := by decide +kernel
theorem d3 : decode yB 3 = .ok (.iload 5, 2) := by decide +kernel
theorem d5 : decode yB 5 = .ok (.iload 4, 2) := by decide +kernel
theorem d7 : decode yB 7 = .ok (.if_icmp (.ge) 37, 3) := by decide +kernel
theorem d10 : decode yB 10 = .ok (.aload_n 0, 1) := by decide +kernel
theorem d11 : decode yB 11 = .ok (.iload_n 1, 1) := by decide +kernel
theorem d12 : decode yB 12 = .ok (.caload, 1) := by decide +kernel
theorem d13 : decode yB 13 = .ok (.istore 6, 2) := by decide +kernel
theorem d15 : decode yB 15 = .ok (.iload 6, 2) := by decide +kernel
theorem d17 : decode yB 17 = .ok (.sipush 255, 3) := by decide +kernel
theorem d20 : decode yB 20 = .ok (.if_icmp (.le) 6, 3) := by decide +kernel
theorem d26 : decode yB 26 = .ok (.aload_n 2, 1) := by decide +kernel
theorem d27 : decode yB 27 = .ok (.iload_n 3, 1) := by decide +kernel
theorem d28 : decode yB 28 = .ok (.iload 6, 2) := by decide +kernel
theorem d30 : decode yB 30 = .ok (.i2b, 1) := by decide +kernel
theorem d31 : decode yB 31 = .ok (.bastore, 1) := by decide +kernel
theorem d32 : decode yB 32 = .ok (.iinc 1 1, 3) := by decide +kernel
theorem d35 : decode yB 35 = .ok (.iinc 3 1, 3) := by decide +kernel
theorem d38 : decode yB 38 = .ok (.iinc 5 1, 3) := by decide +kernel
theorem d41 : decode yB 41 = .ok (.goto (-38), 3) := by decide +kernel
theorem d44 : decode yB 44 = .ok (.iload 4, 2) := by decide +kernel
theorem d46 : decode yB 46 = .ok (.ireturn, 1) := by decide +kernel
def site : List Cond := []
def tab : Cond := tabOf yN yB 7 (some .int) site
def P (b : Addr) (A : Cell) (d : Addr) (B : Cell) (o q len : Nat) (args : Array Value) (s : State) : Prop := args = #[.ref b, .int (Int32.ofNat o), .ref d, .int (Int32.ofNat q), .int (Int32.ofNat len)] ∧ Ch b A s ∧ Arr .byte d B s ∧ b ≠ d ∧ o + len ≤ A.slots.size ∧ q + len ≤ B.slots.size ∧ ∀ i, i < len → ¬ 255 < cv A (o + i)
def E (b : Addr) (A : Cell) (d : Addr) (B : Cell) (o q len : Nat) (r : Option Value) (s u : State) : Prop := r = some (.int (Int32.ofNat len)) ∧ ∃ B', Put d B' s u ∧ Laid B B' q (q + len) (fun j => Value.int (lo8 (cv A (o + (j - q)))))
/-- no char of the range above 255: len; the places written hold each char's low byte -/
theorem law (l : Launch) (b : Addr) (A : Cell) (d : Addr) (B : Cell) (o q len : Nat) : Law l yN 5 5 0 0 yB 7 (some .int) site (P b A d B o q len) (E b A d B o q len) (copyLocs d q len) 0 0 := by
  refine Law.of_walk (plainFor_of_name (by decide +kernel)) (by decide +kernel) (by decide +kernel) (by decide) (fun _ _ h => by rw [h.1]; rfl) (fun _ U U' hal hh h => ⟨h.1, h.2.1.mv hal hh, h.2.2.1.mv hal hh, h.2.2.2⟩) (fun r U U' V V' h1 hal h2 h => ⟨h.1, h.2.elim fun B' q => ⟨B', q.1.mv h1 h2, q.2⟩⟩) ?_
  intro p e s m args below meth c s₁ X0 hexec hbytes hml hret hlk hnm hown hh0 W hP
  obtain ⟨rfl, hA, hB, hne, l1, l2, hp⟩ := hP
  have c1 : Steps p.tables e below (s₁.setTop (entryFrame m #[.ref b, .int (Int32.ofNat o), .ref d, .int (Int32.ofNat q), .int (Int32.ofNat len)] 7)) (s₁.setTop (mkF m 0 #[.val (.ref b), .val (.int (Int32.ofNat o)), .val (.ref d), .val (.int (Int32.ofNat q)), .val (.int (Int32.ofNat len)), .unset, .unset] [])) := entry rfl
  have hA0 := hA.1.mv X0.warmed.alike hh0
  have hB0 := hB.mv X0.warmed.alike hh0
  have a31 := hA.1.2.2.2
  have c2 : Steps p.tables e below (s₁.setTop (entryFrame m #[.ref b, .int (Int32.ofNat o), .ref d, .int (Int32.ofNat q), .int (Int32.ofNat len)] 7)) (s₁.setTop (mkF m 3 #[.val (.ref b), .val (.int (Int32.ofNat o)), .val (.ref d), .val (.int (Int32.ofNat q)), .val (.int (Int32.ofNat len)), .val (.int 0), .unset] [])) := c1.trans (by
    refine iconstV X0.here hexec rfl 0 (hb hbytes d0) (by decide) ?_
    refine XS.istore X0.here hexec rfl (hb hbytes d1) rfl rfl ?_
    exact Steps.refl _)
  have loop : ∀ (r i : Nat), i + r = len → ∀ (z : Slot), (z = .unset ∨ ∃ w, z = .val w ∧ w.category = 1) → ∀ (Tl : State) (Bk : Cell), Stand p l e { frames := 0, locals := 0, cells := 0, slots := 0 } s m #[.ref b, .int (Int32.ofNat o), .ref d, .int (Int32.ofNat q), .int (Int32.ofNat len)] below meth c Tl ([] ++ copyLocs d q i) 0 0 → Put d Bk s₁ Tl → Laid B Bk q (q + i) (fun j => Value.int (lo8 (cv A (o + (j - q))))) →
      Steps p.tables e below (s₁.setTop (entryFrame m #[.ref b, .int (Int32.ofNat o), .ref d, .int (Int32.ofNat q), .int (Int32.ofNat len)] 7)) (Tl.setTop (mkF m 3 #[.val (.ref b), .val (.int (Int32.ofNat (o + i))), .val (.ref d), .val (.int (Int32.ofNat (q + i))), .val (.int (Int32.ofNat len)), .val (.int (Int32.ofNat i)), z] [])) → ∃ (T' : State) (B' : Cell) (z' : Slot), Stand p l e { frames := 0, locals := 0, cells := 0, slots := 0 } s m #[.ref b, .int (Int32.ofNat o), .ref d, .int (Int32.ofNat q), .int (Int32.ofNat len)] below meth c T' ([] ++ copyLocs d q len) 0 0 ∧ Put d B' s₁ T' ∧ Laid B B' q (q + len) (fun j => Value.int (lo8 (cv A (o + (j - q))))) ∧
      Steps p.tables e below (s₁.setTop (entryFrame m #[.ref b, .int (Int32.ofNat o), .ref d, .int (Int32.ofNat q), .int (Int32.ofNat len)] 7)) (T'.setTop (mkF m 3 #[.val (.ref b), .val (.int (Int32.ofNat (o + len))), .val (.ref d), .val (.int (Int32.ofNat (q + len))), .val (.int (Int32.ofNat len)), .val (.int (Int32.ofNat len)), z'] [])) := by
    intro r
    induction r with
    | zero =>
      intro i hi z hz Tl Bk Xl pl fl cl
      have hil : i = len := by omega
      rw [hil] at Xl fl cl
      exact ⟨Tl, Bk, z, Xl, pl, fl, cl⟩
    | succ r ih =>
      intro i hi z hz Tl Bk Xl pl fl cl
      have all := X0.warmed.alike.symm.trans Xl.warmed.alike
      have hAl := hA0.keep all (pl.other hne hA0.1)
      have hBk := hB0.like all pl.1 fl.1 fl.2.1 fl.2.2.1
      have hlt : q + i < Bk.slots.size := by rw [fl.2.2.1]; omega
      have c3 : Steps p.tables e below (s₁.setTop (entryFrame m #[.ref b, .int (Int32.ofNat o), .ref d, .int (Int32.ofNat q), .int (Int32.ofNat len)] 7)) (Tl.setTop (mkF m 12 #[.val (.ref b), .val (.int (Int32.ofNat (o + i))), .val (.ref d), .val (.int (Int32.ofNat (q + i))), .val (.int (Int32.ofNat len)), .val (.int (Int32.ofNat i)), z] [.int (Int32.ofNat (o + i)), .ref b])) := cl.trans (by
        refine XS.iload Xl.here hexec rfl (hb hbytes d3) rfl ?_
        refine XS.iload Xl.here hexec rfl (hb hbytes d5) rfl ?_
        refine XS.icmpNo Xl.here hexec rfl (hb hbytes d7) rfl (ii_ge_f (lt32 (by omega) (by omega))) ?_
        refine XS.aloadN Xl.here hexec rfl (hb hbytes d10) rfl rfl ?_
        refine XS.iloadN Xl.here hexec rfl (hb hbytes d11) rfl ?_
        exact Steps.refl _)
      have c4 : Steps p.tables e below (s₁.setTop (entryFrame m #[.ref b, .int (Int32.ofNat o), .ref d, .int (Int32.ofNat q), .int (Int32.ofNat len)] 7)) (Tl.setTop (mkF m 13 #[.val (.ref b), .val (.int (Int32.ofNat (o + i))), .val (.ref d), .val (.int (Int32.ofNat (q + i))), .val (.int (Int32.ofNat len)), .val (.int (Int32.ofNat i)), z] [.int (cv A (o + i))])) := c3.trans (by
        refine Xl.aget hexec hAl rfl (hA.get (i := o + i) (by omega)) rfl rfl (hb hbytes d12) ?_
        exact Steps.refl _)
      have c5 : Steps p.tables e below (s₁.setTop (entryFrame m #[.ref b, .int (Int32.ofNat o), .ref d, .int (Int32.ofNat q), .int (Int32.ofNat len)] 7)) (Tl.setTop (mkF m 15 #[.val (.ref b), .val (.int (Int32.ofNat (o + i))), .val (.ref d), .val (.int (Int32.ofNat (q + i))), .val (.int (Int32.ofNat len)), .val (.int (Int32.ofNat i)), .val (.int (cv A (o + i)))] [])) := c4.trans (by
        refine XS.istoreS Xl.here hexec rfl (hb hbytes d13) rfl rfl hz ?_
        exact Steps.refl _)
      have c6 : Steps p.tables e below (s₁.setTop (entryFrame m #[.ref b, .int (Int32.ofNat o), .ref d, .int (Int32.ofNat q), .int (Int32.ofNat len)] 7)) (Tl.setTop (mkF m 31 #[.val (.ref b), .val (.int (Int32.ofNat (o + i))), .val (.ref d), .val (.int (Int32.ofNat (q + i))), .val (.int (Int32.ofNat len)), .val (.int (Int32.ofNat i)), .val (.int (cv A (o + i)))] [.int (lo8 (cv A (o + i))), .int (Int32.ofNat (q + i)), .ref d])) := c5.trans (by
        refine XS.iload Xl.here hexec rfl (hb hbytes d15) rfl ?_
        refine sipushV Xl.here hexec rfl 255 (hb hbytes d17) (by decide) ?_
        refine XS.icmpYes Xl.here hexec rfl (pc0 := 20) rfl (hb hbytes d20) rfl (ii_le_t (hp i (by omega))) (by decide) rfl ?_
        refine XS.aloadN Xl.here hexec rfl (hb hbytes d26) rfl rfl ?_
        refine XS.iloadN Xl.here hexec rfl (hb hbytes d27) rfl ?_
        refine XS.iload Xl.here hexec rfl (hb hbytes d28) rfl ?_
        refine i2b Xl.here hexec rfl (hb hbytes d30) rfl ?_
        exact Steps.refl _)
      obtain ⟨T7, X7, p7, st7⟩ := Xl.aput hexec hBk rfl hlt rfl (fits_lo8 (cv A (o + i))) (g := (mkF m 31 #[.val (.ref b), .val (.int (Int32.ofNat (o + i))), .val (.ref d), .val (.int (Int32.ofNat (q + i))), .val (.int (Int32.ofNat len)), .val (.int (Int32.ofNat i)), .val (.int (cv A (o + i)))] [.int (lo8 (cv A (o + i))), .int (Int32.ofNat (q + i)), .ref d])) rfl (rest := []) rfl (hb hbytes d31)
      have c8 : Steps p.tables e below (s₁.setTop (entryFrame m #[.ref b, .int (Int32.ofNat o), .ref d, .int (Int32.ofNat q), .int (Int32.ofNat len)] 7)) (T7.setTop (mkF m 32 #[.val (.ref b), .val (.int (Int32.ofNat (o + i))), .val (.ref d), .val (.int (Int32.ofNat (q + i))), .val (.int (Int32.ofNat len)), .val (.int (Int32.ofNat i)), .val (.int (cv A (o + i)))] [])) := c6.trans (st7 _ (Steps.refl _))
      have c9 : Steps p.tables e below (s₁.setTop (entryFrame m #[.ref b, .int (Int32.ofNat o), .ref d, .int (Int32.ofNat q), .int (Int32.ofNat len)] 7)) (T7.setTop (mkF m 3 #[.val (.ref b), .val (.int (Int32.ofNat (o + i) + 1)), .val (.ref d), .val (.int (Int32.ofNat (q + i) + 1)), .val (.int (Int32.ofNat len)), .val (.int (Int32.ofNat i + 1)), .val (.int (cv A (o + i)))] [])) := c8.trans (by
        refine iincV X7.here hexec rfl 1 (hb hbytes d32) (by decide) rfl rfl ?_
        refine iincV X7.here hexec rfl 1 (hb hbytes d35) (by decide) rfl rfl ?_
        refine iincV X7.here hexec rfl 1 (hb hbytes d38) (by decide) rfl rfl ?_
        refine XS.goto X7.here hexec rfl (pc0 := 41) rfl (hb hbytes d41) (by decide) rfl ?_
        exact Steps.refl _)
      have c10 : Steps p.tables e below (s₁.setTop (entryFrame m #[.ref b, .int (Int32.ofNat o), .ref d, .int (Int32.ofNat q), .int (Int32.ofNat len)] 7)) (T7.setTop (mkF m 3 #[.val (.ref b), .val (.int (Int32.ofNat (o + (i + 1)))), .val (.ref d), .val (.int (Int32.ofNat (q + (i + 1)))), .val (.int (Int32.ofNat len)), .val (.int (Int32.ofNat (i + 1))), .val (.int (cv A (o + i)))] [])) := by
        have := c9
        rw [succ32, succ32, succ32] at this
        exact this
      exact ih (i + 1) (by omega) _ (Or.inr ⟨_, rfl, rfl⟩) T7 _ (by rw [copyLocs_step, ← List.append_assoc]; exact X7) (pl.trans p7) (fl.step (by omega) hlt (by simp)) c10
  obtain ⟨T9, B9, z9, X9, p9, f9, g9⟩ := loop len 0 (by omega) .unset (Or.inl rfl) s₁ B (by simpa [copyLocs] using X0) ⟨hB0.1, fun _ _ => rfl, rfl⟩ (Laid.zero _ _ _) c2
  have c11 : Steps p.tables e below (s₁.setTop (entryFrame m #[.ref b, .int (Int32.ofNat o), .ref d, .int (Int32.ofNat q), .int (Int32.ofNat len)] 7)) (T9.setTop (mkF m 46 #[.val (.ref b), .val (.int (Int32.ofNat (o + len))), .val (.ref d), .val (.int (Int32.ofNat (q + len))), .val (.int (Int32.ofNat len)), .val (.int (Int32.ofNat len)), z9] [.int (Int32.ofNat len)])) := g9.trans (by
    refine XS.iload X9.here hexec rfl (hb hbytes d3) rfl ?_
    refine XS.iload X9.here hexec rfl (hb hbytes d5) rfl ?_
    refine XS.icmpYes X9.here hexec rfl (pc0 := 7) rfl (hb hbytes d7) rfl (ii_ge_t (nlt32 (by omega) (Nat.le_refl _))) (by decide) rfl ?_
    refine XS.iload X9.here hexec rfl (hb hbytes d44) rfl ?_
    exact Steps.refl _)
  exact ⟨T9, some (.int (Int32.ofNat len)), _, _, _, X9, by simp, rfl, rfl, (fun h => by cases h), ⟨rfl, B9, p9.from hh0, f9⟩, fun fs hl => c11.trans (X9.ireturnOut hexec hret rfl (Or.inl rfl) (hb hbytes d46) hl)⟩
end Cmp5
namespace Cmp3
def yN : MethodName := ⟨"java/lang/StringUTF16", "compress", "([CII)[B"⟩
abbrev yB : ByteArray := jdk_52_method_16_code
theorem d0 : decode yB 0 = .ok (.iload_n 2, 1) := by decide +kernel
theorem d1 : decode yB 1 = .ok (.newarray .byte, 2) := by decide +kernel
theorem d3 : decode yB 3 = .ok (.astore_n 3, 1) := by decide +kernel
theorem d4 : decode yB 4 = .ok (.aload_n 0, 1) := by decide +kernel
theorem d5 : decode yB 5 = .ok (.iload_n 1, 1) := by decide +kernel
theorem d6 : decode yB 6 = .ok (.aload_n 3, 1) := by decide +kernel
theorem d7 : decode yB 7 = .ok (.iconst 0, 1) := by decide +kernel
theorem d8 : decode yB 8 = .ok (.iload_n 2, 1) := by decide +kernel
theorem d9 : decode yB 9 = .ok (.invokestatic 115, 3) := by decide +kernel
theorem d12 : decode yB 12 = .ok (.istore 4, 2) := by decide +kernel
theorem d14 : decode yB 14 = .ok (.iload 4, 2) := by decide +kernel
theorem d16 : decode yB 16 = .ok (.iload_n 2, 1) := by decide +kernel
theorem d17 : decode yB 17 = .ok (.if_icmp (.eq) 40, 3) := by decide +kernel
theorem d57 : decode yB 57 = .ok (.aload_n 3, 1) := by decide +kernel
theorem d58 : decode yB 58 = .ok (.areturn, 1) := by decide +kernel
def site : List Cond := [.arrayClass .byte, Cmp5.tab] ++ staticW U16 115 Cmp5.yN
def tab : Cond := tabOf yN yB 6 (some (.array .byte)) site
def P (b : Addr) (A : Cell) (o len : Nat) (args : Array Value) (s : State) : Prop := args = #[.ref b, .int (Int32.ofNat o), .int (Int32.ofNat len)] ∧ Ch b A s ∧ o + len ≤ A.slots.size ∧ len ≤ 536870912 ∧ ∀ i, i < len → ¬ 255 < cv A (o + i)
def E (b : Addr) (A : Cell) (o len : Nat) (r : Option Value) (s u : State) : Prop := NewArr .byte "[B" len (fun j => .int (lo8 (cv A (o + j)))) r s u ∧ u.heap.size = s.heap.size + 1
/-- no char of the range above 255: a new byte[] of their low bytes -/
theorem law (l : Launch) (b : Addr) (A : Cell) (o len : Nat) : Law l yN 3 3 1 18 yB 6 (some (.array .byte)) site (P b A o len) (E b A o len) [] 1 len := by
  refine Law.of_walk (plainFor_of_name (by decide +kernel)) (by decide +kernel) (by decide +kernel) (by decide) (fun _ _ h => by rw [h.1]; rfl) (fun _ U U' hal hh h => ⟨h.1, h.2.1.mv hal hh, h.2.2⟩) (fun r U U' V V' h1 hal h2 h => ⟨NewArr.mv r U U' V V' h1 hal h2 h.1, by rw [h1, h2]; exact h.2⟩) ?_
  intro p e s m args below meth c s₁ X0 hexec hbytes hml hret hlk hnm hown hh0 W hP
  obtain ⟨rfl, hA, l1, l2, hp⟩ := hP
  have a31 := hA.1.2.2.2
  have c1 : Steps p.tables e below (s₁.setTop (entryFrame m #[.ref b, .int (Int32.ofNat o), .int (Int32.ofNat len)] 6)) (s₁.setTop (mkF m 0 #[.val (.ref b), .val (.int (Int32.ofNat o)), .val (.int (Int32.ofNat len)), .unset, .unset, .unset] [])) := entry rfl
  have c2 : Steps p.tables e below (s₁.setTop (entryFrame m #[.ref b, .int (Int32.ofNat o), .int (Int32.ofNat len)] 6)) (s₁.setTop (mkF m 1 #[.val (.ref b), .val (.int (Int32.ofNat o)), .val (.int (Int32.ofNat len)), .unset, .unset, .unset] [.int (Int32.ofNat len)])) := c1.trans (by
    refine XS.iloadN X0.here hexec rfl (hb hbytes d0) rfl ?_
    exact Steps.refl _)
  obtain ⟨T3, B3, X3, ba3, bs3, bv3, bh3, bf3, st3⟩ := X0.anew hexec (atype := .byte) (wk W (.arrayClass .byte)) rfl (by show len * 1 ≤ _; omega) (by omega) (g := (mkF m 1 #[.val (.ref b), .val (.int (Int32.ofNat o)), .val (.int (Int32.ofNat len)), .unset, .unset, .unset] [.int (Int32.ofNat len)])) rfl (hb hbytes d1) (rest := []) rfl (Nat.le_refl _) (by show 0 + len ≤ len; omega)
  rw [hh0] at ba3 st3
  have kp3 : XT.Kept s T3 := (XT.Kept.of_eq hh0).push bh3
  have hA3 := hA.keep X3.warmed.alike (kp3 _ _ hA.1.1)
  have hne : b ≠ s.heap.size := hA.1.ne
  have c4 : Steps p.tables e below (s₁.setTop (entryFrame m #[.ref b, .int (Int32.ofNat o), .int (Int32.ofNat len)] 6)) (T3.setTop (mkF m 3 #[.val (.ref b), .val (.int (Int32.ofNat o)), .val (.int (Int32.ofNat len)), .unset, .unset, .unset] [.ref s.heap.size])) := c2.trans (st3 _ (Steps.refl _))
  have c5 : Steps p.tables e below (s₁.setTop (entryFrame m #[.ref b, .int (Int32.ofNat o), .int (Int32.ofNat len)] 6)) (T3.setTop (mkF m 9 #[.val (.ref b), .val (.int (Int32.ofNat o)), .val (.int (Int32.ofNat len)), .val (.ref s.heap.size), .unset, .unset] [.int (Int32.ofNat len), .int 0, .ref s.heap.size, .int (Int32.ofNat o), .ref b])) := c4.trans (by
    refine XS.astoreN X3.here hexec rfl (hb hbytes d3) rfl rfl rfl ?_
    refine XS.aloadN X3.here hexec rfl (hb hbytes d4) rfl rfl ?_
    refine XS.iloadN X3.here hexec rfl (hb hbytes d5) rfl ?_
    refine XS.aloadN X3.here hexec rfl (hb hbytes d6) rfl rfl ?_
    refine iconstV X3.here hexec rfl 0 (hb hbytes d7) (by decide) ?_
    refine XS.iloadN X3.here hexec rfl (hb hbytes d8) rfl ?_
    exact Steps.refl _)
  obtain ⟨v6, T6, X6, E6, g6⟩ := X3.callS hexec (Cmp5.law l b A s.heap.size B3 o 0 len) hown (wks W (staticW U16 115 Cmp5.yN)) (wk W Cmp5.tab) (W := 0) (Nat.le_of_ble_eq_true rfl) (Nat.le_of_ble_eq_true rfl) (Nat.le_refl _) (by show 0 + len + 0 ≤ len; omega) (g := (mkF m 9 #[.val (.ref b), .val (.int (Int32.ofNat o)), .val (.int (Int32.ofNat len)), .val (.ref s.heap.size), .unset, .unset] [.int (Int32.ofNat len), .int (Int32.ofNat 0), .ref s.heap.size, .int (Int32.ofNat o), .ref b])) rfl (by rw [hml]; rfl) c5 (argsL := [.ref b, .int (Int32.ofNat o), .ref s.heap.size, .int (Int32.ofNat 0), .int (Int32.ofNat len)]) (rest := []) rfl rfl (by show 2 * 0 + 0 ≤ _; decide) (hb hbytes d9) (⟨rfl, hA3, ba3, hne, l1, by rw [bs3]; simp, hp⟩)
  obtain ⟨rfl, B6, p6, f6⟩ := E6
  have c7 : Steps p.tables e below (s₁.setTop (entryFrame m #[.ref b, .int (Int32.ofNat o), .int (Int32.ofNat len)] 6)) (T6.setTop (mkF m 12 #[.val (.ref b), .val (.int (Int32.ofNat o)), .val (.int (Int32.ofNat len)), .val (.ref s.heap.size), .unset, .unset] [.int (Int32.ofNat len)])) := g6
  have c8 : Steps p.tables e below (s₁.setTop (entryFrame m #[.ref b, .int (Int32.ofNat o), .int (Int32.ofNat len)] 6)) (T6.setTop (mkF m 58 #[.val (.ref b), .val (.int (Int32.ofNat o)), .val (.int (Int32.ofNat len)), .val (.ref s.heap.size), .val (.int (Int32.ofNat len)), .unset] [.ref s.heap.size])) := c7.trans (by
    refine XS.istore X6.here hexec rfl (hb hbytes d12) rfl rfl ?_
    refine XS.iload X6.here hexec rfl (hb hbytes d14) rfl ?_
    refine XS.iloadN X6.here hexec rfl (hb hbytes d16) rfl ?_
    refine XS.icmpYes X6.here hexec rfl (pc0 := 17) rfl (hb hbytes d17) rfl (ii_eq_t rfl) (by decide) rfl ?_
    refine XS.aloadN X6.here hexec rfl (hb hbytes d57) rfl rfl ?_
    exact Steps.refl _)
  have X8 := X6.wide (L' := []) (cells' := 1) (slots' := len) (fun x hx hlt => by
    simp only [List.nil_append, copyLocs, List.mem_map, List.mem_range] at hx
    obtain ⟨i, -, rfl⟩ := hx
    exact absurd hlt (Nat.lt_irrefl _)) (Nat.le_refl _) (by omega)
  exact ⟨T6, some (.ref s.heap.size), _, _, _, X8, rfl, rfl, rfl, (fun h => by cases h), ⟨⟨rfl, B6, ba3.like (X3.warmed.alike.symm.trans X6.warmed.alike) p6.1 f6.1 f6.2.1 f6.2.2.1, f6.2.1.trans bv3, by rw [X6.warmed.alike.findClass, f6.1]; exact bf3, by rw [f6.2.2.1, bs3]; simp, fun j hj => by rw [f6.2.2.2 j, if_pos (by omega)]; rfl, kp3.put p6 (Nat.le_refl _)⟩, by rw [p6.2.2, bh3, hh0]; simp⟩, fun fs hl => c8.trans (X8.areturnOut hexec rfl hret rfl (hb hbytes d58) hl)⟩
end Cmp3
namespace CodL
def yN : MethodName := ⟨"java/lang/StringUTF16", "coderFromArrayLen", "([BI)B"⟩
abbrev yB : ByteArray := jdk_52_method_15_code
theorem d0 : decode yB 0 = .ok (.iload_n 1, 1) := by decide +kernel
theorem d1 : decode yB 1 = .ok (.aload_n 0, 1) := by decide +kernel
theorem d2 : decode yB 2 = .ok (.arraylength, 1) := by decide +kernel
theorem d3 : decode yB 3 = .ok (.isub, 1) := by decide +kernel
theorem d4 : decode yB 4 = .ok (.bipush 31, 2) := by decide +kernel
theorem d6 : decode yB 6 = .ok (.iushr, 1) := by decide +kernel
theorem d7 : decode yB 7 = .ok (.i2b, 1) := by decide +kernel
theorem d8 : decode yB 8 = .ok (.ireturn, 1) := by decide +kernel
def site : List Cond := []
def tab : Cond := tabOf yN yB 2 (some .byte) site
def P (d : Addr) (B : Cell) (args : Array Value) (s : State) : Prop := args = #[.ref d, .int (Int32.ofNat B.slots.size)] ∧ Arr .byte d B s
def E (r : Option Value) (s u : State) : Prop := XT.PureE (some (.int 0)) r s u
/-- an array as long as the number of chars: LATIN1 -/
theorem law (l : Launch) (d : Addr) (B : Cell) : Law l yN 2 2 0 0 yB 2 (some .byte) site (P d B) E [] 0 0 := by
  refine Law.of_walk (plainFor_of_name (by decide +kernel)) (by decide +kernel) (by decide +kernel) (by decide) (fun _ _ h => by rw [h.1]; rfl) (fun _ U U' hal hh h => ⟨h.1, h.2.mv hal hh⟩) (fun r U U' V V' h1 hal h2 h => XT.PureE.mv r U U' V V' h1 hal h2 h) ?_
  intro p e s m args below meth c s₁ X0 hexec hbytes hml hret hlk hnm hown hh0 W hP
  obtain ⟨rfl, hB⟩ := hP
  have hB0 := hB.mv X0.warmed.alike hh0
  have c1 : Steps p.tables e below (s₁.setTop (entryFrame m #[.ref d, .int (Int32.ofNat B.slots.size)] 2)) (s₁.setTop (mkF m 0 #[.val (.ref d), .val (.int (Int32.ofNat B.slots.size))] [])) := entry rfl
  have c2 : Steps p.tables e below (s₁.setTop (entryFrame m #[.ref d, .int (Int32.ofNat B.slots.size)] 2)) (s₁.setTop (mkF m 2 #[.val (.ref d), .val (.int (Int32.ofNat B.slots.size))] [.ref d, .int (Int32.ofNat B.slots.size)])) := c1.trans (by
    refine XS.iloadN X0.here hexec rfl (hb hbytes d0) rfl ?_
    refine XS.aloadN X0.here hexec rfl (hb hbytes d1) rfl rfl ?_
    exact Steps.refl _)
  have c3 : Steps p.tables e below (s₁.setTop (entryFrame m #[.ref d, .int (Int32.ofNat B.slots.size)] 2)) (s₁.setTop (mkF m 8 #[.val (.ref d), .val (.int (Int32.ofNat B.slots.size))] [.int (lo8 (ushr (Int32.ofNat B.slots.size - Int32.ofNat B.slots.size) 31))])) := c2.trans (by
    refine X0.alen hexec hB0 rfl rfl (hb hbytes d2) ?_
    refine XS.isub X0.here hexec rfl (hb hbytes d3) rfl ?_
    refine bipushV X0.here hexec rfl 31 (hb hbytes d4) (by decide) ?_
    refine iushr X0.here hexec rfl (hb hbytes d6) rfl ?_
    refine i2b X0.here hexec rfl (hb hbytes d7) rfl ?_
    exact Steps.refl _)
  have e0 : lo8 (ushr (Int32.ofNat B.slots.size - Int32.ofNat B.slots.size) 31) = 0 := by rw [Int32.sub_self]; decide
  rw [e0] at c3
  exact ⟨s₁, some (.int 0), _, _, _, X0, rfl, rfl, rfl, (fun h => by cases h), ⟨rfl, hh0⟩, fun fs hl => c3.trans (X0.ireturnOut hexec hret rfl (Or.inr (Or.inr (Or.inl rfl))) (hb hbytes d8) hl)⟩
end CodL
/-- the String at a is Latin-1 over a new byte[] (the heap's one new cell): the low bytes of the len chars of A from o on; every cell but a is kept -/
def Got (a : Addr) (D : Cell) (fV fC : Field) (A : Cell) (o len : Nat) (r : Option Value) (s u : State) : Prop := r = none ∧ ∃ D' V : Cell, Blank "java/lang/String" a D' u ∧ Same D D' [fV.slot, fC.slot] ∧ D'.slots[fV.slot]? = some (.ref s.heap.size) ∧ D'.slots[fC.slot]? = some (.int 0) ∧ Arr .byte s.heap.size V u ∧ V.vm = .none ∧ u.vm.findClass "[B" = some V.cls ∧ V.slots.size = len ∧ (∀ j, j < len → V.slots[j]? = some (.int (lo8 (cv A (o + j))))) ∧ (∀ (y : Addr) (c : Cell), y ≠ a → s.heap[y]? = some c → u.heap[y]? = some c) ∧ u.heap.size = s.heap.size + 1
theorem Got.mv {a : Addr} {D A : Cell} {fV fC : Field} {o len : Nat} : ∀ r (U U' V V' : State), U'.heap = U.heap → V.vm.Alike V'.vm → V'.heap = V.heap → Got a D fV fC A o len r U V → Got a D fV fC A o len r U' V' :=
  fun r U U' V V' h1 hal h2 ⟨e0, D', X, a1, a2, a3, a4, a5, a6, a7, a8, a9, a10, a11⟩ => ⟨e0, D', X, a1.mv hal h2, a2, by rw [h1]; exact a3, a4, by rw [h1]; exact a5.mv hal h2, a6, by rw [hal.findClass]; exact a7, a8, a9, by rw [h1, h2]; exact a10, by rw [h1, h2]; exact a11⟩
namespace New4
def yN : MethodName := ⟨"java/lang/String", "<init>", "([CIILjava/lang/Void;)V"⟩
abbrev yB : ByteArray := jdk_42_method_149_code
theorem d0 : decode yB 0 = .ok (.aload_n 0, 1) := by decide +kernel
theorem d1 : decode yB 1 = .ok (.invokespecial 1, 3) := by decide +kernel
theorem d4 : decode yB 4 = .ok (.iload_n 3, 1) := by decide +kernel
theorem d5 : decode yB 5 = .ok (.ifCond (.ne) 22, 3) := by decide +kernel
theorem d27 : decode yB 27 = .ok (.getstatic 38, 3) := by decide +kernel
theorem d30 : decode yB 30 = .ok (.ifCond (.eq) 28, 3) := by decide +kernel
theorem d33 : decode yB 33 = .ok (.aload_n 1, 1) := by decide +kernel
theorem d34 : decode yB 34 = .ok (.iload_n 2, 1) := by decide +kernel
theorem d35 : decode yB 35 = .ok (.iload_n 3, 1) := by decide +kernel
theorem d36 : decode yB 36 = .ok (.invokestatic 177, 3) := by decide +kernel
theorem d39 : decode yB 39 = .ok (.astore 5, 2) := by decide +kernel
theorem d41 : decode yB 41 = .ok (.aload_n 0, 1) := by decide +kernel
theorem d42 : decode yB 42 = .ok (.aload 5, 2) := by decide +kernel
theorem d44 : decode yB 44 = .ok (.iload_n 3, 1) := by decide +kernel
theorem d45 : decode yB 45 = .ok (.invokestatic 47, 3) := by decide +kernel
theorem d48 : decode yB 48 = .ok (.putfield 15, 3) := by decide +kernel
theorem d51 : decode yB 51 = .ok (.aload_n 0, 1) := by decide +kernel
theorem d52 : decode yB 52 = .ok (.aload 5, 2) := by decide +kernel
theorem d54 : decode yB 54 = .ok (.putfield 9, 3) := by decide +kernel
theorem d57 : decode yB 57 = .ok (.return_, 1) := by decide +kernel
def site : List Cond := [.fieldLink "java/lang/String" 38 "java/lang/String" "COMPACT_STRINGS" "Z", Cmp3.tab, CodL.tab, .laysFinal "java/lang/String" "java/lang/String" "value" "[B", .fieldLink "java/lang/String" 9 "java/lang/String" "value" "[B", .laysFinal "java/lang/String" "java/lang/String" "coder" "B", .fieldLink "java/lang/String" 15 "java/lang/String" "coder" "B"] ++ objW "java/lang/String" 1 ++ staticW "java/lang/String" 177 Cmp3.yN ++ staticW "java/lang/String" 47 CodL.yN
def tab : Cond := tabOf yN yB 6 none site
def P (a : Addr) (D : Cell) (fV fC : Field) (b : Addr) (A : Cell) (z : Int32) (o len : Nat) (args : Array Value) (s : State) : Prop := args = #[.ref a, .ref b, .int (Int32.ofNat o), .int (Int32.ofNat len), .null] ∧ Blank "java/lang/String" a D s ∧ Found "java/lang/String" "value" "[B" fV s ∧ Found "java/lang/String" "coder" "B" fC s ∧ Ch b A s ∧ StaticIs s "java/lang/String" "COMPACT_STRINGS" "Z" (.int z) ∧ ¬ z = 0 ∧ 0 < len ∧ o + len ≤ A.slots.size ∧ len ≤ 536870912 ∧ ∀ i, i < len → ¬ 255 < cv A (o + i)
def E (a : Addr) (D : Cell) (fV fC : Field) (A : Cell) (o len : Nat) (r : Option Value) (s u : State) : Prop := Got a D fV fC A o len r s u
/-- len > 0, no char of the range above 255: a Latin-1 String of their low bytes -/
theorem law (l : Launch) (a : Addr) (D : Cell) (fV fC : Field) (b : Addr) (A : Cell) (z : Int32) (o len : Nat) : Law l yN 5 4 2 35 yB 6 none site (P a D fV fC b A z o len) (E a D fV fC A o len) [⟨a, fC.slot⟩, ⟨a, fV.slot⟩] 1 len := by
  refine Law.of_walk (plainFor_of_name (by decide +kernel)) (by decide +kernel) (by decide +kernel) (by decide) (fun _ _ h => by rw [h.1]; rfl) (fun _ U U' hal hh h => ⟨h.1, h.2.1.mv hal hh, h.2.2.1.al hal, h.2.2.2.1.al hal, h.2.2.2.2.1.mv hal hh, h.2.2.2.2.2.1.there hal hh, h.2.2.2.2.2.2⟩) (fun r U U' V V' h1 hal h2 h => Got.mv r U U' V V' h1 hal h2 h) ?_
  intro p e s m args below meth c s₁ X0 hexec hbytes hml hret hlk hnm hown hh0 W hP
  obtain ⟨rfl, hB, f1, f2, hA, s1, hz, l0, l1, l2, hp⟩ := hP
  have a31 := hA.1.2.2.2
  have c1 : Steps p.tables e below (s₁.setTop (entryFrame m #[.ref a, .ref b, .int (Int32.ofNat o), .int (Int32.ofNat len), .null] 6)) (s₁.setTop (mkF m 0 #[.val (.ref a), .val (.ref b), .val (.int (Int32.ofNat o)), .val (.int (Int32.ofNat len)), .val .null, .unset] [])) := entry rfl
  have c2 : Steps p.tables e below (s₁.setTop (entryFrame m #[.ref a, .ref b, .int (Int32.ofNat o), .int (Int32.ofNat len), .null] 6)) (s₁.setTop (mkF m 1 #[.val (.ref a), .val (.ref b), .val (.int (Int32.ofNat o)), .val (.int (Int32.ofNat len)), .val .null, .unset] [.ref a])) := c1.trans (by
    refine XS.aloadN X0.here hexec rfl (hb hbytes d0) rfl rfl ?_
    exact Steps.refl _)
  obtain ⟨T3, X3, q3, st3⟩ := X0.oinit hexec hown (wks W (objW "java/lang/String" 1)) (g := (mkF m 1 #[.val (.ref a), .val (.ref b), .val (.int (Int32.ofNat o)), .val (.int (Int32.ofNat len)), .val .null, .unset] [.ref a])) rfl (by rw [hml]; rfl) (rest := []) rfl (hb hbytes d1) (W := 0) (by show 2 * 0 + 0 ≤ _; decide) (Nat.le_of_ble_eq_true rfl) (Nat.le_of_ble_eq_true rfl)
  have hh3 := q3.trans hh0
  have c4 : Steps p.tables e below (s₁.setTop (entryFrame m #[.ref a, .ref b, .int (Int32.ofNat o), .int (Int32.ofNat len), .null] 6)) (T3.setTop (mkF m 27 #[.val (.ref a), .val (.ref b), .val (.int (Int32.ofNat o)), .val (.int (Int32.ofNat len)), .val .null, .unset] [])) := (c2.trans (st3 _ (Steps.refl _))).trans (by
    refine XS.iloadN X3.here hexec rfl (hb hbytes d4) rfl ?_
    refine XS.ifYes X3.here hexec rfl (pc0 := 5) rfl (hb hbytes d5) rfl (i0_ne_t (nz32 (by omega) l0)) (by decide) rfl ?_
    exact Steps.refl _)
  obtain ⟨T5, X5, q5, st5⟩ := X3.sget hexec hown (wk W (.fieldLink "java/lang/String" 38 "java/lang/String" "COMPACT_STRINGS" "Z")) s1 (fun _ _ h => by rw [hh3]; exact h) (g := (mkF m 27 #[.val (.ref a), .val (.ref b), .val (.int (Int32.ofNat o)), .val (.int (Int32.ofNat len)), .val .null, .unset] [])) rfl (hb hbytes d27)
  have hh5 := q5.trans hh3
  have c6 : Steps p.tables e below (s₁.setTop (entryFrame m #[.ref a, .ref b, .int (Int32.ofNat o), .int (Int32.ofNat len), .null] 6)) (T5.setTop (mkF m 30 #[.val (.ref a), .val (.ref b), .val (.int (Int32.ofNat o)), .val (.int (Int32.ofNat len)), .val .null, .unset] [.int z])) := c4.trans (st5 _ (Steps.refl _))
  have c7 : Steps p.tables e below (s₁.setTop (entryFrame m #[.ref a, .ref b, .int (Int32.ofNat o), .int (Int32.ofNat len), .null] 6)) (T5.setTop (mkF m 36 #[.val (.ref a), .val (.ref b), .val (.int (Int32.ofNat o)), .val (.int (Int32.ofNat len)), .val .null, .unset] [.int (Int32.ofNat len), .int (Int32.ofNat o), .ref b])) := c6.trans (by
    refine XS.ifNo X5.here hexec rfl (hb hbytes d30) rfl (i0_eq_f hz) ?_
    refine XS.aloadN X5.here hexec rfl (hb hbytes d33) rfl rfl ?_
    refine XS.iloadN X5.here hexec rfl (hb hbytes d34) rfl ?_
    refine XS.iloadN X5.here hexec rfl (hb hbytes d35) rfl ?_
    exact Steps.refl _)
  obtain ⟨v8, T8, X8, E8, g8⟩ := X5.callS hexec (Cmp3.law l b A o len) hown (wks W (staticW "java/lang/String" 177 Cmp3.yN)) (wk W Cmp3.tab) (W := 0) (Nat.le_of_ble_eq_true rfl) (Nat.le_of_ble_eq_true rfl) (Nat.le_refl _) (by show 0 + len ≤ len; omega) (g := (mkF m 36 #[.val (.ref a), .val (.ref b), .val (.int (Int32.ofNat o)), .val (.int (Int32.ofNat len)), .val .null, .unset] [.int (Int32.ofNat len), .int (Int32.ofNat o), .ref b])) rfl (by rw [hml]; rfl) c7 (argsL := [.ref b, .int (Int32.ofNat o), .int (Int32.ofNat len)]) (rest := []) rfl rfl (by show 2 * 0 + 0 ≤ _; decide) (hb hbytes d36) (⟨rfl, hA.mv X5.warmed.alike hh5, l1, l2, hp⟩)
  obtain ⟨e8, z8⟩ := E8
  obtain ⟨rfl, N, n1, n2, n3, n4, n5, n6⟩ := NewArr.mv _ T5 s _ _ hh5.symm (Vm.Alike.refl _) rfl e8
  rw [hh5] at z8
  have hB1 := hB.keep X8.warmed.alike (n6 _ _ hB.1)
  have hne : s.heap.size ≠ a := (Nat.ne_of_lt (Array.getElem?_eq_some_iff.mp hB.1).1).symm
  have c9 : Steps p.tables e below (s₁.setTop (entryFrame m #[.ref a, .ref b, .int (Int32.ofNat o), .int (Int32.ofNat len), .null] 6)) (T8.setTop (mkF m 39 #[.val (.ref a), .val (.ref b), .val (.int (Int32.ofNat o)), .val (.int (Int32.ofNat len)), .val .null, .unset] [.ref s.heap.size])) := g8
  have c10 : Steps p.tables e below (s₁.setTop (entryFrame m #[.ref a, .ref b, .int (Int32.ofNat o), .int (Int32.ofNat len), .null] 6)) (T8.setTop (mkF m 45 #[.val (.ref a), .val (.ref b), .val (.int (Int32.ofNat o)), .val (.int (Int32.ofNat len)), .val .null, .val (.ref s.heap.size)] [.int (Int32.ofNat N.slots.size), .ref s.heap.size, .ref a])) := by
    have hc : Steps p.tables e below (s₁.setTop (entryFrame m #[.ref a, .ref b, .int (Int32.ofNat o), .int (Int32.ofNat len), .null] 6)) (T8.setTop (mkF m 45 #[.val (.ref a), .val (.ref b), .val (.int (Int32.ofNat o)), .val (.int (Int32.ofNat len)), .val .null, .val (.ref s.heap.size)] [.int (Int32.ofNat len), .ref s.heap.size, .ref a])) := c9.trans (by
      refine XS.astore X8.here hexec rfl (hb hbytes d39) rfl rfl rfl ?_
      refine XS.aloadN X8.here hexec rfl (hb hbytes d41) rfl rfl ?_
      refine XS.aload X8.here hexec rfl (hb hbytes d42) rfl rfl ?_
      refine XS.iloadN X8.here hexec rfl (hb hbytes d44) rfl ?_
      exact Steps.refl _)
    rw [n4]; exact hc
  obtain ⟨v11, T11, X11, E11, g11⟩ := X8.callS hexec (CodL.law l s.heap.size N) hown (wks W (staticW "java/lang/String" 47 CodL.yN)) (wk W CodL.tab) (W := 1) (Nat.le_of_ble_eq_true rfl) (Nat.le_of_ble_eq_true rfl) (Nat.le_refl _) (by show 0 + len + 0 ≤ len; omega) (g := (mkF m 45 #[.val (.ref a), .val (.ref b), .val (.int (Int32.ofNat o)), .val (.int (Int32.ofNat len)), .val .null, .val (.ref s.heap.size)] [.int (Int32.ofNat N.slots.size), .ref s.heap.size, .ref a])) rfl (by rw [hml]; rfl) c10 (argsL := [.ref s.heap.size, .int (Int32.ofNat N.slots.size)]) (rest := [.ref a]) rfl rfl (by show 2 * 0 + (1 + 0) ≤ _; decide) (hb hbytes d45) (⟨rfl, n1⟩)
  obtain ⟨rfl, q11⟩ := E11
  have hB11 := hB1.mv (X8.warmed.alike.symm.trans X11.warmed.alike) q11
  have c12 : Steps p.tables e below (s₁.setTop (entryFrame m #[.ref a, .ref b, .int (Int32.ofNat o), .int (Int32.ofNat len), .null] 6)) (T11.setTop (mkF m 48 #[.val (.ref a), .val (.ref b), .val (.int (Int32.ofNat o)), .val (.int (Int32.ofNat len)), .val .null, .val (.ref s.heap.size)] [.int 0, .ref a])) := g11
  obtain ⟨T13, X13, p13, bl13, sl13, st13⟩ := X11.finit hexec hown (wk W (.fieldLink "java/lang/String" 15 "java/lang/String" "coder" "B")) (Or.inr ⟨_, (wk W (.laysFinal "java/lang/String" "java/lang/String" "coder" "B"))⟩) (Or.inl ⟨rfl, hnm⟩) f2 (Or.inl rfl) hB11 (t := .byte) (by decide +kernel) rfl (g := (mkF m 48 #[.val (.ref a), .val (.ref b), .val (.int (Int32.ofNat o)), .val (.int (Int32.ofNat len)), .val .null, .val (.ref s.heap.size)] [.int 0, .ref a])) rfl (rest := []) rfl (hb hbytes d48)
  have c14 : Steps p.tables e below (s₁.setTop (entryFrame m #[.ref a, .ref b, .int (Int32.ofNat o), .int (Int32.ofNat len), .null] 6)) (T13.setTop (mkF m 54 #[.val (.ref a), .val (.ref b), .val (.int (Int32.ofNat o)), .val (.int (Int32.ofNat len)), .val .null, .val (.ref s.heap.size)] [.ref s.heap.size, .ref a])) := (c12.trans (st13 _ (Steps.refl _))).trans (by
    refine XS.aloadN X13.here hexec rfl (hb hbytes d51) rfl rfl ?_
    refine XS.aload X13.here hexec rfl (hb hbytes d52) rfl rfl ?_
    exact Steps.refl _)
  obtain ⟨T15, X15, p15, bl15, sl15, st15⟩ := X13.finit hexec hown (wk W (.fieldLink "java/lang/String" 9 "java/lang/String" "value" "[B")) (Or.inr ⟨_, (wk W (.laysFinal "java/lang/String" "java/lang/String" "value" "[B"))⟩) (Or.inl ⟨rfl, hnm⟩) f1 (Or.inl rfl) bl13 (t := (.array .byte)) (by decide +kernel) rfl (g := (mkF m 54 #[.val (.ref a), .val (.ref b), .val (.int (Int32.ofNat o)), .val (.int (Int32.ofNat len)), .val .null, .val (.ref s.heap.size)] [.ref s.heap.size, .ref a])) rfl (rest := []) rfl (hb hbytes d54)
  have c16 : Steps p.tables e below (s₁.setTop (entryFrame m #[.ref a, .ref b, .int (Int32.ofNat o), .int (Int32.ofNat len), .null] 6)) (T15.setTop (mkF m 57 #[.val (.ref a), .val (.ref b), .val (.int (Int32.ofNat o)), .val (.int (Int32.ofNat len)), .val .null, .val (.ref s.heap.size)] [])) := c14.trans (st15 _ (Steps.refl _))
  have ap := apart (Or.inr ⟨_, (wk W (.laysFinal "java/lang/String" "java/lang/String" "value" "[B"))⟩) (Or.inr ⟨_, (wk W (.laysFinal "java/lang/String" "java/lang/String" "coder" "B"))⟩) f1 f2 (t₁ := .array .byte) (t₂ := .byte) (by decide +kernel) (by decide +kernel) (by decide)
  have al := X8.warmed.alike.symm.trans X15.warmed.alike
  have n7 : T11.heap[s.heap.size]? = some N := by rw [q11]; exact n1.1
  exact ⟨T15, none, _, _, _, X15, by simp, rfl, by omega, (fun _ => rfl), ⟨rfl, _, N, bl15, ((Same.refl D _).set _ (by simp)).set _ (by simp), sl15, (Cell.slots_setSlot_ne _ ap).trans sl13, n1.keep al (p15.other hne (p13.other hne n7)), n2, by rw [al.findClass]; exact n3, n4, n5, fun y c h1 h2 => p15.other h1 (p13.other h1 (by rw [q11]; exact n6 y c h2)), by rw [p15.2.2, p13.2.2, q11]; exact z8⟩, fun fs hl => c16.trans (X15.returnOut hexec hret (hb hbytes d57) hl)⟩
end New4
namespace New1
def yN : MethodName := ⟨"java/lang/String", "<init>", "([C)V"⟩
abbrev yB : ByteArray := jdk_42_method_3_code
theorem d0 : decode yB 0 = .ok (.aload_n 0, 1) := by decide +kernel
theorem d1 : decode yB 1 = .ok (.aload_n 1, 1) := by decide +kernel
theorem d2 : decode yB 2 = .ok (.iconst 0, 1) := by decide +kernel
theorem d3 : decode yB 3 = .ok (.aload_n 1, 1) := by decide +kernel
theorem d4 : decode yB 4 = .ok (.arraylength, 1) := by decide +kernel
theorem d5 : decode yB 5 = .ok (.aconst_null, 1) := by decide +kernel
theorem d6 : decode yB 6 = .ok (.invokespecial 27, 3) := by decide +kernel
theorem d9 : decode yB 9 = .ok (.return_, 1) := by decide +kernel
def site : List Cond := [New4.tab] ++ initW "java/lang/String" 27 New4.yN
def tab : Cond := tabOf yN yB 2 none site
def P (a : Addr) (D : Cell) (fV fC : Field) (b : Addr) (A : Cell) (z : Int32) (args : Array Value) (s : State) : Prop := args = #[.ref a, .ref b] ∧ Blank "java/lang/String" a D s ∧ Found "java/lang/String" "value" "[B" fV s ∧ Found "java/lang/String" "coder" "B" fC s ∧ Ch b A s ∧ StaticIs s "java/lang/String" "COMPACT_STRINGS" "Z" (.int z) ∧ ¬ z = 0 ∧ 0 < A.slots.size ∧ A.slots.size ≤ 536870912 ∧ ∀ i, i < A.slots.size → ¬ 255 < cv A i
def E (a : Addr) (D : Cell) (fV fC : Field) (A : Cell) (r : Option Value) (s u : State) : Prop := Got a D fV fC A 0 A.slots.size r s u
/-- new String(chars), not empty, no char above 255: a Latin-1 String of their low bytes -/
theorem law (l : Launch) (a : Addr) (D : Cell) (fV fC : Field) (b : Addr) (A : Cell) (z : Int32) : Law l yN 2 1 3 52 yB 2 none site (P a D fV fC b A z) (E a D fV fC A) [⟨a, fC.slot⟩, ⟨a, fV.slot⟩] 1 A.slots.size := by
  refine Law.of_walk (plainFor_of_name (by decide +kernel)) (by decide +kernel) (by decide +kernel) (by decide) (fun _ _ h => by rw [h.1]; rfl) (fun _ U U' hal hh h => ⟨h.1, h.2.1.mv hal hh, h.2.2.1.al hal, h.2.2.2.1.al hal, h.2.2.2.2.1.mv hal hh, h.2.2.2.2.2.1.there hal hh, h.2.2.2.2.2.2⟩) (fun r U U' V V' h1 hal h2 h => Got.mv r U U' V V' h1 hal h2 h) ?_
  intro p e s m args below meth c s₁ X0 hexec hbytes hml hret hlk hnm hown hh0 W hP
  obtain ⟨rfl, hB, f1, f2, hA, s1, hz, l0, l2, hp⟩ := hP
  have c1 : Steps p.tables e below (s₁.setTop (entryFrame m #[.ref a, .ref b] 2)) (s₁.setTop (mkF m 0 #[.val (.ref a), .val (.ref b)] [])) := entry rfl
  have c2 : Steps p.tables e below (s₁.setTop (entryFrame m #[.ref a, .ref b] 2)) (s₁.setTop (mkF m 6 #[.val (.ref a), .val (.ref b)] [.null, .int (Int32.ofNat A.slots.size), .int 0, .ref b, .ref a])) := c1.trans (by
    refine XS.aloadN X0.here hexec rfl (hb hbytes d0) rfl rfl ?_
    refine XS.aloadN X0.here hexec rfl (hb hbytes d1) rfl rfl ?_
    refine iconstV X0.here hexec rfl 0 (hb hbytes d2) (by decide) ?_
    refine XS.aloadN X0.here hexec rfl (hb hbytes d3) rfl rfl ?_
    refine X0.alen hexec (hA.1.mv X0.warmed.alike hh0) rfl rfl (hb hbytes d4) ?_
    refine XS.aconstNull X0.here hexec rfl (hb hbytes d5) ?_
    exact Steps.refl _)
  obtain ⟨v3, T3, X3, E3, g3⟩ := X0.callN hexec (New4.law l a D fV fC b A z 0 A.slots.size) rfl hown (wks W (initW "java/lang/String" 27 New4.yN)) (W New4.tab (by simp only [site, List.mem_cons, List.mem_append, true_or, or_true])) (W := 0) (Nat.le_of_ble_eq_true rfl) (Nat.le_of_ble_eq_true rfl) (Nat.le_refl _) (by show 0 + A.slots.size ≤ A.slots.size; omega) (g := (mkF m 6 #[.val (.ref a), .val (.ref b)] [.null, .int (Int32.ofNat A.slots.size), .int (Int32.ofNat 0), .ref b, .ref a])) rfl (by rw [hml]; rfl) c2 (argsL := [.ref b, .int (Int32.ofNat 0), .int (Int32.ofNat A.slots.size), .null]) (rest := []) rfl rfl (by show 2 * 0 + 0 ≤ _; decide) (hb hbytes d6) (⟨rfl, hB.mv X0.warmed.alike hh0, f1.al X0.warmed.alike, f2.al X0.warmed.alike, hA.mv X0.warmed.alike hh0, s1.there X0.warmed.alike hh0, hz, l0, by omega, l2, fun i hi => by rw [Nat.zero_add]; exact hp i hi⟩)
  have e0 := Got.mv _ s₁ s _ _ hh0.symm (Vm.Alike.refl _) rfl E3
  obtain rfl := e0.1
  have c4 : Steps p.tables e below (s₁.setTop (entryFrame m #[.ref a, .ref b] 2)) (T3.setTop (mkF m 9 #[.val (.ref a), .val (.ref b)] [])) := g3
  exact ⟨T3, none, _, _, _, X3, by simp, rfl, by omega, (fun _ => rfl), e0, fun fs hl => c4.trans (X3.returnOut hexec hret (hb hbytes d9) hl)⟩
theorem pays {l : Launch} {R : Room} {p : Program} {e : Env} {below : List Frame} {s : State} {sargs : Array Value} {len W : Nat} (a : Addr) (D : Cell) (fV fC : Field) (b : Addr) (A : Cell) (z : Int32) (htab : tab.before sargs s = true) (hfr : 4 ≤ R.frames) (hlo : W + 65 ≤ R.locals) :
    Back l R p e below s sargs yN len W (fun A₁ a₁ => A₁.cells + 1 ≤ R.cells ∧ A₁.slots + A.slots.size ≤ R.slots ∧ P a D fV fC b A z a₁ A₁.U) (fun A₁ _ v₁ B₁ => E a D fV fC A v₁ A₁.U B₁.U ∧ B₁.locs = A₁.locs ++ [⟨a, fC.slot⟩, ⟨a, fV.slot⟩] ∧ B₁.cells = A₁.cells + 1 ∧ B₁.slots = A₁.slots + A.slots.size) :=
  (law l a D fV fC b A z).pays htab hfr (by omega)
end New1
end StrChars
namespace StrChars.Road
open Jvm Sem ClassFile Op Lib Jvm.Stand Jvm.Free Jvm.Free.XT
open Jvm.Lib.Cold (StaticIs)
abbrev ST : String := "java/lang/String"
/-- every table word that New1's law asks, flat -/
abbrev words : List Jvm.Cond := [.code New1.yN New1.yB 2 none, .initialized ST, .methodLink ST 27 New4.yN, .instanceMethod New4.yN,
  .code New4.yN New4.yB 6 none, .fieldLink ST 38 ST "COMPACT_STRINGS" "Z", .laysFinal ST ST "value" "[B", .fieldLink ST 9 ST "value" "[B", .laysFinal ST ST "coder" "B", .fieldLink ST 15 ST "coder" "B",
  .methodLink ST 1 Lib.objectInit, .instanceMethod Lib.objectInit, .code Lib.objectInit ⟨#[0xb1]⟩ 1 none, .methodLink ST 177 Cmp3.yN, .static Cmp3.yN, .methodLink ST 47 CodL.yN, .static CodL.yN,
  .code Cmp3.yN Cmp3.yB 6 (some (.array .byte)), .initialized U16, .arrayClass .byte, .methodLink U16 115 Cmp5.yN, .static Cmp5.yN, .code Cmp5.yN Cmp5.yB 7 (some .int), .code CodL.yN CodL.yB 2 (some .byte)]
theorem tab_of {a : Array Value} {s : State} (h : ∀ w ∈ words, w.before a s = true) : New1.tab.before a s = true := by
  have h5 : Cmp5.tab.before a s = true := unparts (wk h (.code Cmp5.yN Cmp5.yB 7 (some .int))) (wks h (.initialized Cmp5.yN.cls :: Cmp5.site))
  have hc : CodL.tab.before a s = true := unparts (wk h (.code CodL.yN CodL.yB 2 (some .byte))) (wks h (.initialized CodL.yN.cls :: CodL.site))
  have q5 : ∀ w ∈ Cmp5.tab :: words, w.before a s = true := fun w hw => (List.mem_cons.mp hw).elim (fun e => e ▸ h5) (h w)
  have h3 : Cmp3.tab.before a s = true := unparts (wk q5 (.code Cmp3.yN Cmp3.yB 6 (some (.array .byte)))) (wks q5 (.initialized Cmp3.yN.cls :: Cmp3.site))
  have q3 : ∀ w ∈ Cmp3.tab :: CodL.tab :: words, w.before a s = true := fun w hw => (List.mem_cons.mp hw).elim (fun e => e ▸ h3) fun hw => (List.mem_cons.mp hw).elim (fun e => e ▸ hc) (h w)
  have h4 : New4.tab.before a s = true := unparts (wk q3 (.code New4.yN New4.yB 6 none)) (wks q3 (.initialized New4.yN.cls :: New4.site))
  have q4 : ∀ w ∈ New4.tab :: words, w.before a s = true := fun w hw => (List.mem_cons.mp hw).elim (fun e => e ▸ h4) (h w)
  exact unparts (wk q4 (.code New1.yN New1.yB 2 none)) (wks q4 (.initialized New1.yN.cls :: New1.site))
/-- the words ride from the start Z to the walk's own state -/
theorem moved {Z s : State} {a0 args : Array Value} (hZ : Z.Warmed39 s.vm) (hw : ∀ d ∈ words, d.before a0 Z = true) : ∀ d ∈ words, d.before args s = true := fun d hd => by
  have q := hw d hd
  have t : ∀ d ∈ words, d = .arrayClass .byte ∨ (d.onTables && d.keepsFace) = true := by decide +kernel
  rcases t d hd with rfl | t
  · exact RoadKit.mvA hZ q
  · exact RoadKit.mv hZ q t
/-- WHAT COMES BACK, over the tables of the start Z: h the heap at the call, h' behind it -/
def Q (Z : State) (x : Addr) (A : Cell) (h : Heap) (v : Option Value) (h' : Heap) (L : List Loc) : Prop := v = none ∧ (∀ y ∈ L, y.base = x) ∧ RoadKit.Keep h h' [x] ∧ h'.size = h.size + 1 ∧ RoadKit.Exa Z h' x ST ∧ RoadKit.Fld Z h' x ST "value" "[B" (.ref h.size) ∧ RoadKit.Fld Z h' x ST "coder" "B" (.int 0) ∧
  (∃ V : Cell, RoadKit.Arr Z h' h.size V .byte ∧ V.vm = .none ∧ Z.vm.findClass "[B" = some V.cls ∧ V.slots.size = A.slots.size ∧ ∀ j, j < A.slots.size → V.slots[j]? = some (.int (lo8 (cv A j)))) ∧
  ∀ (O n d : String) (w : Value), RoadKit.Fld Z h x O n d w → RoadKit.slotOf Z O n d ≠ RoadKit.slotOf Z ST "value" "[B" → RoadKit.slotOf Z O n d ≠ RoadKit.slotOf Z ST "coder" "B" → RoadKit.Fld Z h' x O n d w
/-- **new String(chars) AT A CALL, IN THE ROAD'S FORM**: for specialBack behind newO: x the fresh String, b the char[] with the cell A -/
theorem back {p : Program} {l : Launch} {e : Env} {R : Room} {s : State} {args : Array Value} {below : List Frame} {len W : Nat} {Z : State} {a0 : Array Value} {h : Heap} (hZ : Z.Warmed39 s.vm) (hw : ∀ d ∈ words, d.before a0 Z = true) {kI : Nat} (wi : (Jvm.Cond.instantiable ST kI).before a0 Z = true)
    {x b : Addr} {A : Cell} {z : Int32} {v0 c0 : Value} (E : RoadKit.Exa Z h x ST) (V : RoadKit.Fld Z h x ST "value" "[B" v0) (C : RoadKit.Fld Z h x ST "coder" "B" c0) (K : RoadKit.Arr Z h b A .char) (hty : Typed .char A) (S : RoadKit.Sta Z h ST "COMPACT_STRINGS" "Z" (.int z)) (hz : ¬ z = 0)
    (l0 : 0 < A.slots.size) (l2 : A.slots.size ≤ 536870912) (hp : ∀ i, i < A.slots.size → ¬ 255 < cv A i) (hfr : 4 ≤ R.frames) (hlo : W + 65 ≤ R.locals) :
    Back l R p e below s args New1.yN len W (fun P a => a = #[.ref x, .ref b] ∧ P.U.heap = h ∧ P.cells + 1 ≤ R.cells ∧ P.slots + A.slots.size ≤ R.slots)
      (fun P _ v B => ∃ L, Q Z x A h v B.U.heap L ∧ B.locs = P.locs ++ L ∧ B.cells = P.cells + 1 ∧ B.slots = P.slots + A.slots.size) := by
  intro m meth c P g ig mk a X hg hsize hdg hW hn hp'
  obtain ⟨rfl, rfl, r1, r2⟩ := hp'
  have al : Z.vm.Alike P.U.vm := hZ.alike.trans X.warmed.alike
  obtain ⟨D, cfV, kV, iV, fV, hD, gV, stV, knV, obV, asV, slV⟩ := id V
  obtain ⟨D', cfC, kC, iC, fC, hD', gC, stC, -, -, asC, slC⟩ := id C
  cases hD.symm.trans hD'
  obtain ⟨D2, kD, e1, e2, e3, e4, e5⟩ := id E
  cases hD.symm.trans e1
  obtain ⟨c2, k2, i1, i2, i3, -⟩ := Cond.instantiable_spec wi
  cases e2.symm.trans i1
  cases e3.symm.trans i2
  obtain ⟨kU, u1, u2⟩ := al.2.2 _ _ e3
  have hB : Blank ST x D P.U := ⟨hD, ⟨knV, fun q hq => by rw [hq] at obV; cases obV⟩, by rw [al.findClass]; exact e2, kU, u1, by rw [u2]; exact i3, by rw [u2]; exact e5 i3⟩
  have F1 : Found ST "value" "[B" fV P.U := ⟨SBG.found_only al ⟨cfV, kV, iV, gV⟩, stV⟩
  have F2 : Found ST "coder" "B" fC P.U := ⟨SBG.found_only al ⟨cfC, kC, iC, gC⟩, stC⟩
  have hA : Ch b A P.U := ⟨⟨K.1, State.isArrayOf_alike al K.2.1, K.2.2, by omega⟩, hty⟩
  have hS : StaticIs P.U ST "COMPACT_STRINGS" "Z" (.int z) := by
    obtain ⟨cfS, iS, kS, fS, st, cS, t1, t2, t3, t4, t5, t6, t7⟩ := S
    exact StaticIs.there (s := { Z with heap := P.U.heap }) ⟨cfS, iS, kS, fS, st, cS, t1, t2, t3, t4, t5, (fun q => by rw [q] at t6; cases t6), t7⟩ al rfl
  obtain ⟨v, B, X', ⟨⟨hv, E', V', q1, q2, q3, q4, q5, q6, q7, q8, q9, q10, q11⟩, hl, hc, hs⟩, st⟩ := New1.pays x D fV fC b A z (tab_of (moved hZ hw)) hfr hlo m meth c P g ig mk _ X hg hsize hdg hW hn ⟨r1, r2, rfl, hB, F1, F2, hA, hS, hz, l0, l2, hp⟩
  have al' : Z.vm.Alike B.U.vm := hZ.alike.trans X'.warmed.alike
  have hsz : E'.slots.size = D.slots.size := by
    obtain ⟨-, -, -, kB, w1, w2, w3⟩ := q1
    obtain ⟨kB', y1, y2⟩ := al'.2.2 _ _ e3
    rw [q2.2.1] at w1
    cases w1.symm.trans y1
    rw [w3, e5 i3, y2]
  refine ⟨v, B, X', ⟨_, ⟨hv, ?_, ⟨by omega, fun y cy hy hn' => q10 y cy (by simpa using hn') hy, fun y cy hy => ?_⟩, q11, ⟨E', _, q1.1, by rw [q2.2.1]; exact e2, by rw [q2.2.1]; exact e3, by rw [q2.1]; exact obV, fun _ => by rw [hsz]; exact e5 i3⟩,
    ⟨E', cfV, kV, iV, fV, q1.1, gV, stV, by rw [q2.1]; exact knV, by rw [q2.1]; exact obV, by rw [q2.2.1]; exact asV, q3⟩, ⟨E', cfC, kC, iC, fC, q1.1, gC, stC, by rw [q2.1]; exact knV, by rw [q2.1]; exact obV, by rw [q2.2.1]; exact asC, q4⟩,
    ⟨V', ⟨q5.1, State.isArrayOf_alike al'.symm q5.2.1, q5.2.2.1⟩, q6, by rw [← al'.findClass]; exact q7, q8, fun j hj => by have := q9 j hj; rwa [Nat.zero_add] at this⟩, fun O n d w F n1 n2 => ?_⟩, hl, hc, hs⟩, st⟩
  · intro y hy
    simp only [List.mem_cons, List.not_mem_nil, or_false] at hy
    rcases hy with rfl | rfl <;> rfl
  · by_cases q : y = x
    · subst q
      cases hD.symm.trans hy
      exact ⟨E', q1.1, q2.2.1, q2.1, hsz⟩
    · exact ⟨cy, q10 y cy q hy, rfl, rfl, rfl⟩
  · obtain ⟨D3, cf, k, i, f, g1, g2, g3, g4, g5, g6, g7⟩ := F
    cases hD.symm.trans g1
    simp only [RoadKit.slotOf, g2, gV, gC, Option.map_some, Option.getD_some] at n1 n2
    exact ⟨E', cf, k, i, f, q1.1, g2, g3, by rw [q2.1]; exact g4, by rw [q2.1]; exact g5, by rw [q2.2.1]; exact g6, by rw [q2.2.2 f.slot (by simp [n1, n2])]; exact g7⟩
end StrChars.Road
namespace StrChars.Road
open Jvm Sem ClassFile Op Lib Jvm.Stand Jvm.Free Jvm.Free.XT
/-- WHAT COMES BACK, the byte[] as a list of values -/
def QA (Z : State) (x : Addr) (zn : Int32) (cs : List Int32) (h : Heap) (v : Option Value) (h' : Heap) (L : List Loc) : Prop := v = none ∧ (∀ y ∈ L, y.base = x) ∧ RoadKit.Keep h h' [x] ∧ h'.size = h.size + 1 ∧ RoadKit.Exa Z h' x ST ∧ RoadKit.Fld Z h' x ST "value" "[B" (.ref h.size) ∧ RoadKit.Fld Z h' x ST "coder" "B" (.int 0) ∧
  (∃ kb, Z.vm.findClass "[B" = some kb ∧ RoadKit.Arv Z h' h.size kb .byte zn (cs.map fun c => .int (lo8 c)) (.int 0)) ∧
  ∀ (O n d : String) (w : Value), RoadKit.Fld Z h x O n d w → RoadKit.slotOf Z O n d ≠ RoadKit.slotOf Z ST "value" "[B" → RoadKit.slotOf Z O n d ≠ RoadKit.slotOf Z ST "coder" "B" → RoadKit.Fld Z h' x O n d w
/-- **new String(chars) AT A CALL, THE ARRAYS AS LISTS**: the char[] at b holds cs, not empty, no char above 255 -/
theorem backArv {p : Program} {l : Launch} {e : Env} {R : Room} {s : State} {args : Array Value} {below : List Frame} {len W : Nat} {Z : State} {a0 : Array Value} {h : Heap} (hZ : Z.Warmed39 s.vm) (hw : ∀ d ∈ words, d.before a0 Z = true) {kI : Nat} (wi : (Jvm.Cond.instantiable ST kI).before a0 Z = true)
    {x b : Addr} {k : ClassId} {zn z : Int32} {cs : List Int32} {dv v0 c0 : Value} (E : RoadKit.Exa Z h x ST) (V : RoadKit.Fld Z h x ST "value" "[B" v0) (C : RoadKit.Fld Z h x ST "coder" "B" c0) (K : RoadKit.Arv Z h b k .char zn (cs.map Value.int) dv) (S : RoadKit.Sta Z h ST "COMPACT_STRINGS" "Z" (.int z)) (hz : ¬ z = 0)
    (hlen : zn.toNatClampNeg = cs.length) (h0 : 0 < cs.length) (hbig : cs.length ≤ 536870912) (hall : ∀ c ∈ cs, ¬ 255 < c) (hfr : 4 ≤ R.frames) (hlo : W + 65 ≤ R.locals) :
    Back l R p e below s args New1.yN len W (fun P a => a = #[.ref x, .ref b] ∧ P.U.heap = h ∧ P.cells + 1 ≤ R.cells ∧ P.slots + cs.length ≤ R.slots)
      (fun P _ v B => ∃ L, QA Z x zn cs h v B.U.heap L ∧ B.locs = P.locs ++ L ∧ B.cells = P.cells + 1 ∧ B.slots = P.slots + cs.length) := by
  obtain ⟨A, K1, K2, K3, K4, K5, K6⟩ := K
  have e : A.slots.size = cs.length := K3.trans hlen
  have hat : ∀ (i : Nat) (hi : i < cs.length), A.slots[i]? = some (.int cs[i]) := fun i hi => by rw [K5 i (by omega)]; simp [List.getD_eq_getElem?_getD, hi]
  have hcv : ∀ (i : Nat) (hi : i < cs.length), cv A i = cs[i] := fun i hi => by unfold cv; rw [hat i hi]
  have hty : Typed .char A := fun i v hv => by
    have hi : i < A.slots.size := (Array.getElem?_eq_some_iff.mp hv).1
    have q := K5 i hi
    rw [hv] at q
    rw [Option.some.inj q]
    exact K6 i hi
  refine Back.mono (back hZ hw wi E V C K1 hty S hz (by omega) (by omega) (fun i hi => by rw [hcv i (by omega)]; exact hall _ (List.getElem_mem _)) hfr hlo) (fun P a hp => ⟨hp.1, hp.2.1, hp.2.2.1, by rw [e]; exact hp.2.2.2⟩) (fun P a v B hp hq => ?_)
  obtain ⟨L, ⟨q1, q2, q3, q4, q5, q6, q7, ⟨V', v1, v2, v3, v4, v5⟩, q9⟩, hl, hc, hs⟩ := hq
  refine ⟨L, ⟨q1, q2, q3, q4, q5, q6, q7, ⟨V'.cls, v3, V', v1, rfl, by rw [v4, e, hlen], K4, fun i hi => ?_, fun i hi => ?_⟩, q9⟩, hl, hc, by rw [hs, e]⟩
  · have hi' : i < cs.length := by omega
    rw [v5 i (by omega), hcv i hi']; simp [List.getD_eq_getElem?_getD, hi']
  · have hi' : i < cs.length := by omega
    simp only [List.getD_eq_getElem?_getD, List.getElem?_map, List.getElem?_eq_getElem hi', Option.map_some, Option.getD_some]
    exact fits_lo8 _
end StrChars.Road
namespace StrChars.Road
open Jvm Sem ClassFile Op Lib Jvm.Stand Jvm.Free Jvm.Free.XT
/-- WHAT COMES BACK, in the writer's own shape -/
def QV (Z : State) (x : Addr) (N : Int32) (bs : List Int32) (h : Heap) (n0 : Nat) (v : Option Value) (h' : Heap) (L : List Loc) : Prop := v = none ∧ RoadKit.Fr n0 L ∧ RoadKit.Keep h h' [x] ∧ RoadKit.Exa Z h' x ST ∧ RoadKit.Fld Z h' x ST "coder" "B" (.int 0) ∧
  ∃ (t : Addr) (kb : ClassId), n0 ≤ t ∧ h.size ≤ t ∧ ¬ t = x ∧ RoadKit.Fld Z h' x ST "value" "[B" (.ref t) ∧ RoadKit.Arv Z h' t kb .byte N (bs.map Value.int) (.int 0)
/-- **new String(chars) AT A CALL, FOR THE WRITER**: a char[] of n known ints, each 0 to 255 -/
theorem backV {p : Program} {l : Launch} {e : Env} {R : Room} {s : State} {args : Array Value} {below : List Frame} {len W : Nat} {Z : State} {a0 : Array Value} {h : Heap} (hZ : Z.Warmed39 s.vm) (hw : ∀ d ∈ words, d.before a0 Z = true) {kI : Nat} (wi : (Jvm.Cond.instantiable ST kI).before a0 Z = true)
    {x b : Addr} {kC : ClassId} {cs bs : List Int32} {d v0 c0 : Value} {z N : Int32} {n n0 : Nat} (hx0 : n0 ≤ x) (hh0 : n0 ≤ h.size) (E : RoadKit.Exa Z h x ST) (V : RoadKit.Fld Z h x ST "value" "[B" v0) (C : RoadKit.Fld Z h x ST "coder" "B" c0) (K : RoadKit.Arv Z h b kC .char N (cs.map Value.int) d) (S : RoadKit.Sta Z h ST "COMPACT_STRINGS" "Z" (.int z)) (hz : ¬ z = 0)
    (hn : cs.length = n) (hN : N = Int32.ofNat n) (l0 : 0 < n) (l2 : n ≤ 4000) (hp : ∀ c ∈ cs, ¬ c < 0 ∧ ¬ (255 : Int32) < c) (hb : bs = cs.map (fun c => c.toInt8.toInt32)) (hfr : 4 ≤ R.frames) (hlo : W + 65 ≤ R.locals) :
    Back l R p e below s args (⟨"java/lang/String", "<init>", "([C)V"⟩ : MethodName) len W (fun P a => a = #[.ref x, .ref b] ∧ P.U.heap = h ∧ P.cells + 1 ≤ R.cells ∧ P.slots + n ≤ R.slots)
      (fun P _ v B => ∃ L, QV Z x N bs h n0 v B.U.heap L ∧ B.locs = P.locs ++ L ∧ B.cells = P.cells + 1 ∧ B.slots = P.slots + n) := by
  subst hn hN hb
  refine Back.mono (backArv hZ hw wi E V C K S hz (n32 (by omega)) l0 (by omega) (fun c hc => (hp c hc).2) hfr hlo) (fun P a hp => hp) (fun P a v B hp hq => ?_)
  obtain ⟨L, ⟨q1, q2, q3, q4, q5, q6, q7, ⟨kb, v1, v2⟩, q9⟩, hl, hc, hs⟩ := hq
  exact ⟨L, ⟨q1, fun y hy => by rw [q2 y hy]; exact hx0, q3, q5, q7, h.size, kb, hh0, Nat.le_refl _, Nat.ne_of_gt E.lt, q6, by rw [List.map_map]; exact v2⟩, hl, hc, hs⟩
end StrChars.Road
end Jvm.Pilot.@@N@@
namespace Jvm.Pilot.@@N@@
open Jvm Jvm.ClassFile Sem Op Lib Jvm.Free Jvm.Stand Jvm.LawKit Jvm.RoadKit Bundle Jvm.Pilot.@@N@@.Jvm.D
theorem own_cat {v : Value} (h : v.isRef = true) : v.category = 1 := by cases v <;> first | rfl | (simp [Value.isRef] at h)
theorem own_cr (a : Addr) : (Value.ref a).category = 1 := rfl
theorem own_ci (a : Int32) : (Value.int a).category = 1 := rfl
theorem own_cj (a : Int64) : (Value.long a).category = 2 := rfl
theorem own_cn : Value.null.category = 1 := rfl
theorem own_nar {v : Value} {t : FieldType} (ht : t.isReference = true) (h : v.isRef = true) : narrow t v = v := by
  rcases ref_cases h with rfl | ⟨a, rfl⟩ <;> cases t <;> first | rfl | (simp [FieldType.isReference] at ht)
theorem own_fits {v : Value} {t : FieldType} (ht : t.isReference = true) (h : v.isRef = true) : fits t v = true := by
  rcases ref_cases h with rfl | ⟨a, rfl⟩ <;> cases t <;> first | rfl | (simp [FieldType.isReference] at ht)
theorem own_store {l l' : Array Slot} {i : Nat} {v : Value} {o : Slot} (hold : l[i]? = some o) (ho : o = .unset ∨ ∃ w, o = .val w ∧ w.category = 1) (hv : v.category = 1) (e : l.setIfInBounds i (.val v) = l') : storeLocals l i v = some l' := by
  rw [Jvm.Free.XS.store1 hold ho hv, e]
def Glob (Z : State) (a0 : Array Value) (G1 : Int32) (kn : Addr) : Prop := (∀ d ∈ tables_1, d.before a0 Z = true) ∧ (Sta Z Z.heap "java/lang/String" "COMPACT_STRINGS" "Z" (.int G1)) ∧ (¬ (G1 = (0 : Int32))) ∧ (Sta Z Z.heap "com/example/clauses_to_controls/clausestocontrols/service/DependencyFinding$Kind" "NO_DATA" "Lcom/example/clauses_to_controls/clausestocontrols/service/DependencyFinding$Kind;" (.ref kn))
theorem own_hws {Z : State} {a0 : Array Value} (hw : ∀ d ∈ tables_1, d.before a0 Z = true) : ∀ d ∈ StrChars.Road.words, d.before a0 Z = true := fun d hd => hw d ((by decide +kernel : ∀ d ∈ StrChars.Road.words, d ∈ tables_1) d hd)
theorem own_char255 (x : Int32) : ¬ nar .char ((x &&& (255 : Int32)).toUInt32.toUInt16.toUInt32.toInt32) < 0 ∧ ¬ (255 : Int32) < nar .char ((x &&& (255 : Int32)).toUInt32.toUInt16.toUInt32.toInt32) := by
  have t : ∀ k : Fin 256, ¬ nar .char ((Int32.ofNat k.val).toUInt32.toUInt16.toUInt32.toInt32) < 0 ∧ ¬ (255 : Int32) < nar .char ((Int32.ofNat k.val).toUInt32.toUInt16.toUInt32.toInt32) := by decide +kernel
  have h : (x &&& 255).toBitVec.toNat < 256 := by
    simp only [Int32.toBitVec_and, BitVec.toNat_and]
    exact Nat.lt_succ_of_le Nat.and_le_right
  have e : (x &&& 255) = Int32.ofNat (x &&& 255).toBitVec.toNat := by
    apply Int32.toBitVec_inj.mp
    show _ = BitVec.ofNat 32 _
    rw [BitVec.ofNat_toNat]; simp
  rw [e]
  exact t ⟨_, h⟩
def own_EL : List (String × Nat) := []
theorem own_ew {Z : State} {a0 : Array Value} (hw : ∀ d ∈ tables_1, d.before a0 Z = true) : EW Z a0 own_EL := by
  have W : ∀ (i : Nat) {d : Jvm.Cond}, tables_1[i]? = some d → d.before a0 Z = true := fun i d h => hw d (List.mem_of_getElem? h)
  exact EW.nil
theorem own_sa {Z : State} {a0 : Array Value} (hw : ∀ d ∈ tables_1, d.before a0 Z = true) : ∀ a ∈ Bundle.stringAtoms, a.before a0 Z = true := fun d hd => hw d ((by decide +kernel : ∀ d ∈ Bundle.stringAtoms, d ∈ tables_1) d hd)
theorem own_mono {s t : State} {o : Outcome} {L : List Loc} {k n k' n' : Nat} (h : ReturnedEndW s o t L k n) (hk : k ≤ k') (hn : n ≤ n') : ReturnedEndW s o t L k' n' := ⟨h.1, h.2.1, h.2.2.1, h.2.2.2.mono hk hn⟩
theorem own_safeS {Z : State} {EL : List (String × Nat)} {vm : Vm} {h : Heap} {x : Addr} (hal : Z.vm.Alike vm) (E : Exa Z h x "java/lang/String") (F0 : Fld Z h x "java/lang/String" "value" "[B" .null) : Safe Z EL vm h x := fun B => by
  obtain ⟨p, hp, u, a, hb, q, hq, F, e | e⟩ := B
  · subst e
    obtain ⟨cell, cf, k, i, f, h1, h2, -, -, -, -, h7⟩ := F0
    cases (show h[q.sa]? = some q.sC from F.ha).symm.trans h1
    obtain ⟨cS, ⟨⟨-, -, -, ⟨c1, k1, i1, f1, -⟩, -, -, -, v1, -⟩, -⟩, -⟩ := F
    obtain ⟨k3, e3, -⟩ := State.fieldFound?_setVm (s := Z) hal h2
    have e4 := (show (Wst Z vm h).fieldFound? _ _ _ = _ from e3).symm.trans f1
    simp only [Option.some.injEq, Prod.mk.injEq] at e4
    rw [← e4.2.2.2, h7] at v1
    cases v1
  · subst e
    obtain ⟨cell, k, e1, e2, e3, -, -⟩ := E
    cases (show h[q.sd]? = some q.SA from F.hd).symm.trans e1
    obtain ⟨cS, -, -, f, -⟩ := F
    have f' : vm.findClass "[B" = some q.SA.cls := f
    rw [hal.findClass] at f'
    obtain ⟨k1, q1, q2⟩ := Vm.findClass_spec f'
    obtain ⟨k2, q3, q4⟩ := Vm.findClass_spec e2
    cases q1.symm.trans q3
    exact absurd (q2.symm.trans q4) (by decide)
theorem dx_jdk_43_method_3_code_0 : decode jdk_43_method_3_code 0 = .ok (.iload_n 0, 1) := by decide +kernel
theorem dx_jdk_43_method_3_code_1 : decode jdk_43_method_3_code 1 = .ok (.sipush 255, 3) := by decide +kernel
theorem dx_jdk_43_method_3_code_4 : decode jdk_43_method_3_code 4 = .ok (.if_icmp .gt 7, 3) := by decide +kernel
theorem dx_jdk_43_method_3_code_7 : decode jdk_43_method_3_code 7 = .ok (.iconst 1, 1) := by decide +kernel
theorem dx_jdk_43_method_3_code_8 : decode jdk_43_method_3_code 8 = .ok (.goto 4, 3) := by decide +kernel
theorem dx_jdk_43_method_3_code_12 : decode jdk_43_method_3_code 12 = .ok (.ireturn, 1) := by decide +kernel
def Qcenc (Z : State) (G1 : Int32) (kn : Addr) (pz : Int32) (h0 : Heap) (n0 : Nat) (v : Option Value) (h : Heap) (L : List Loc) : Prop := v = some (.int (1 : Int32)) ∧ Fr n0 L ∧ h = h0
theorem ef_jdk_43_method_3_code_I (m : MethodId) (x0 : Int32) : entryFrame m #[(.int x0)] 1 = mkF m 0 #[.val (.int x0)] [] := by first | (simp [entryFrame, mkF, argsToLocals, Value.category]; done) | rfl
abbrev y0 : MethodName := ⟨"java/lang/StringLatin1", "canEncode", "(C)Z"⟩
theorem pn_java_lang_StringLatin1 : plainName "java/lang/StringLatin1" = true := by first | (simp [plainName, overriddenIn]; done) | decide +kernel
set_option maxRecDepth 65536 in
set_option maxHeartbeats 40000000 in
theorem rmcenc (l : Launch) (Z : State) (a0 : Array Value) (G1 : Int32) (kn : Addr) (hG : Glob Z a0 G1 kn) (ws : List Jvm.Cond) (pz : Int32) (h0 : Heap) (n0 : Nat) (Z0 : n0 ≤ h0.size) (X00 : Old Z n0 h0) (hp : ¬ ((255 : Int32) < pz)) :
    MetFree l y0 (head1 (Jvm.Cond.code y0 jdk_43_method_3_code 1 (some .boolean) :: ws) ({ frames := 0, cells := 0, slots := 0, locals := 0 } : Room)) (fun a U => a = #[(.int pz)] ∧ Z.Warmed39 U.vm ∧ U.heap = h0) (fun _ _ _ _ _ => True) (fun _ U o U' => ∃ v L, o = .returned v ∧ Qcenc Z G1 kn pz h0 n0 v U'.heap L ∧ FrameEnd U o U' L ({ frames := 0, cells := 0, slots := 0, locals := 0 } : Room).cells ({ frames := 0, cells := 0, slots := 0, locals := 0 } : Room).slots) := by
  obtain ⟨hw, O_cs, P_cs, O_kn⟩ := id hG
  have W : ∀ (i : Nat) {d : Jvm.Cond}, tables_1[i]? = some d → d.before a0 Z = true := fun i d h => hw d (List.mem_of_getElem? h)
  refine MetFree.of_bodySF (plainFor_of_name pn_java_lang_StringLatin1) hisR ?_
  intro p e s m args below meth c s₁ Bd hml0 hP hK
  obtain ⟨rfl, hZ, hh⟩ := hP
  have hx := Bd.exec
  have hby := Bd.bytes
  have hml : c.maxLocals = 1 := hml0
  have hown : s.vm.findClass "java/lang/StringLatin1" = some m.cls := findClass_of_methodNamed Bd.named
  have hnm := (name_of_methodNamed Bd.named Bd.method).1
  have X0 : Stand p l e ({ frames := 0, cells := 0, slots := 0, locals := 0 } : Room) s m #[(.int pz)] below meth c s₁ [] 0 0 := Stand.of_body Bd
  have e0 : s₁.heap = h0 := by rw [← hh, Bd.state]; rfl
  have N0 := Fr.nil n0
  have pre0 : ∀ t, Steps p.tables e below (s₁.setTop (mkF m 0 #[.val (.int pz)] [])) t → Steps p.tables e below (s₁.setTop (entryFrame m #[(.int pz)] 1)) t := fun t kk_ => castTop (ef_jdk_43_method_3_code_I m pz) kk_
  obtain ⟨fs, hr, hrun, hended, hW, hsame⟩ := X0.leave (v := some (.int (1 : Int32))) (fun h => by rw [Bd.returns] at h; cases h)
  refine ⟨_, _, pre0 _ ?_, hrun, hended, _, _, rfl, ?_, ⟨_, rfl⟩, hW, hsame.mono (Nat.le_of_ble_eq_true rfl) (Nat.le_of_ble_eq_true rfl)⟩
  · show Steps p.tables e below (s₁.setTop (mkF m 0 #[.val (.int pz)] [])) _
    refine XS.iloadN X0.here hx rfl (hb hby dx_jdk_43_method_3_code_0) rfl ?_
    show Steps p.tables e below (s₁.setTop (mkF m 1 #[.val (.int pz)] [(.int pz)])) _
    refine XS.sipush X0.here hx rfl (hb hby dx_jdk_43_method_3_code_1) ?_
    show Steps p.tables e below (s₁.setTop (mkF m 4 #[.val (.int pz)] [(.int (255 : Int32)), (.int pz)])) _
    refine XS.icmpNo X0.here hx rfl (hb hby dx_jdk_43_method_3_code_4) rfl (flt (hp : ¬ ((255 : Int32) < pz))).2.2.1 ?_
    show Steps p.tables e below (s₁.setTop (mkF m 7 #[.val (.int pz)] [])) _
    refine XS.iconst X0.here hx rfl (hb hby dx_jdk_43_method_3_code_7) ?_
    show Steps p.tables e below (s₁.setTop (mkF m 8 #[.val (.int pz)] [(.int (1 : Int32))])) _
    refine XS.goto X0.here hx rfl (pc0 := 8) (pc' := 12) rfl (hb hby dx_jdk_43_method_3_code_8) (by decide) (by decide) ?_
    show Steps p.tables e below (s₁.setTop (mkF m 12 #[.val (.int pz)] [(.int (1 : Int32))])) _
    exact retN X0 hx (t := .boolean) Bd.returns (by simp) (hb hby dx_jdk_43_method_3_code_12) hr
  · show Qcenc Z G1 kn pz h0 n0 _ s₁.heap _
    rw [e0]
    exact ⟨rfl, N0, rfl⟩
theorem dx_jdk_43_method_46_code_0 : decode jdk_43_method_46_code 0 = .ok (.iconst 1, 1) := by decide +kernel
theorem dx_jdk_43_method_46_code_1 : decode jdk_43_method_46_code 1 = .ok (.newarray .byte, 2) := by decide +kernel
theorem dx_jdk_43_method_46_code_3 : decode jdk_43_method_46_code 3 = .ok (.dup, 1) := by decide +kernel
theorem dx_jdk_43_method_46_code_4 : decode jdk_43_method_46_code 4 = .ok (.iconst 0, 1) := by decide +kernel
theorem dx_jdk_43_method_46_code_5 : decode jdk_43_method_46_code 5 = .ok (.iload_n 0, 1) := by decide +kernel
theorem dx_jdk_43_method_46_code_6 : decode jdk_43_method_46_code 6 = .ok (.i2b, 1) := by decide +kernel
theorem dx_jdk_43_method_46_code_7 : decode jdk_43_method_46_code 7 = .ok (.bastore, 1) := by decide +kernel
theorem dx_jdk_43_method_46_code_8 : decode jdk_43_method_46_code 8 = .ok (.areturn, 1) := by decide +kernel
def Qtob (Z : State) (G1 : Int32) (kn : Addr) (pz : Int32) (h0 : Heap) (n0 : Nat) (v : Option Value) (h : Heap) (L : List Loc) : Prop := ∃ b : Addr, v = some (.ref b) ∧ Fr n0 L ∧ Keep h0 h [] ∧ h0.size ≤ b
theorem ef_jdk_43_method_46_code_I (m : MethodId) (x0 : Int32) : entryFrame m #[(.int x0)] 1 = mkF m 0 #[.val (.int x0)] [] := by first | (simp [entryFrame, mkF, argsToLocals, Value.category]; done) | rfl
abbrev y1 : MethodName := ⟨"java/lang/StringLatin1", "toBytes", "(C)[B"⟩
set_option maxRecDepth 65536 in
set_option maxHeartbeats 40000000 in
theorem rmtob (l : Launch) (Z : State) (a0 : Array Value) (G1 : Int32) (kn : Addr) (hG : Glob Z a0 G1 kn) (ws : List Jvm.Cond) (pz : Int32) (h0 : Heap) (n0 : Nat) (Z0 : n0 ≤ h0.size) (X00 : Old Z n0 h0) :
    MetFree l y1 (head1 (Jvm.Cond.code y1 jdk_43_method_46_code 1 (some (.array .byte)) :: ws) ({ frames := 0, cells := 1, slots := 1, locals := 0 } : Room)) (fun a U => a = #[(.int pz)] ∧ Z.Warmed39 U.vm ∧ U.heap = h0) (fun _ _ _ _ _ => True) (fun _ U o U' => ∃ v L, o = .returned v ∧ Qtob Z G1 kn pz h0 n0 v U'.heap L ∧ FrameEnd U o U' L ({ frames := 0, cells := 1, slots := 1, locals := 0 } : Room).cells ({ frames := 0, cells := 1, slots := 1, locals := 0 } : Room).slots) := by
  obtain ⟨hw, O_cs, P_cs, O_kn⟩ := id hG
  have W : ∀ (i : Nat) {d : Jvm.Cond}, tables_1[i]? = some d → d.before a0 Z = true := fun i d h => hw d (List.mem_of_getElem? h)
  refine MetFree.of_bodySF (plainFor_of_name pn_java_lang_StringLatin1) hisR ?_
  intro p e s m args below meth c s₁ Bd hml0 hP hK
  obtain ⟨rfl, hZ, hh⟩ := hP
  have hx := Bd.exec
  have hby := Bd.bytes
  have hml : c.maxLocals = 1 := hml0
  have hown : s.vm.findClass "java/lang/StringLatin1" = some m.cls := findClass_of_methodNamed Bd.named
  have hnm := (name_of_methodNamed Bd.named Bd.method).1
  have X0 : Stand p l e ({ frames := 0, cells := 1, slots := 1, locals := 0 } : Room) s m #[(.int pz)] below meth c s₁ [] 0 0 := Stand.of_body Bd
  have e0 : s₁.heap = h0 := by rw [← hh, Bd.state]; rfl
  have N0 := Fr.nil n0
  have pre0 : ∀ t, Steps p.tables e below (s₁.setTop (mkF m 0 #[.val (.int pz)] [])) t → Steps p.tables e below (s₁.setTop (entryFrame m #[(.int pz)] 1)) t := fun t kk_ => castTop (ef_jdk_43_method_46_code_I m pz) kk_
  obtain ⟨T1, h1, k1, X1, e1, E1, A1, Q1, st1⟩ := newPE X0 hx hZ (W 19 rfl) e0 (g := (mkF m 1 #[.val (.int pz)] [(.int (1 : Int32))])) rfl (hb hby dx_jdk_43_method_46_code_1) rfl (by decide) (cap := 1) (by decide) (by decide) (by decide) (by decide) (ad := "[B") rfl
  obtain ⟨b1, g1⟩ : ∃ z, z = h0.size := ⟨_, rfl⟩
  rw [← g1] at A1 Q1 st1
  have Z2 : n0 ≤ h1.size := Nat.le_trans Z0 E1.1
  have K0_2 : Keep h0 h1 [] := (Keep.refl h0 []).ext E1
  have O2 : Old Z n0 h1 := X00.ext E1
  have lo_b1 : h0.size ≤ b1 := Nat.le_of_eq g1.symm
  have g_b1 : n0 ≤ b1 := Nat.le_trans Z0 lo_b1
  have l0_b1 : h0.size ≤ b1 := Nat.le_trans (Keep.refl h0 []).1 lo_b1
  have V_b1 : Arv Z h1 b1 k1 .byte (1 : Int32) [(.int (0 : Int32))] (.int (0 : Int32)) := (Arv.new A1 (by decide)).pad (pad_rep [] (.int (0 : Int32)) 1)
  obtain ⟨clq3, Arq3, qaq3, Sq3, Nq3, Hq3, Gq3⟩ := id V_b1
  have hinq3 : ¬ ((0 : Int32) < 0 ∨ clq3.slots.size ≤ ((0 : Int32)).toNatClampNeg) := inb_of Sq3 ⟨by decide, by decide⟩
  obtain ⟨T4, h4, X4, e4, W4, st4⟩ := stB X1 hx hZ e1 Arq3 (j := (0 : Int32)) hinq3 (g := (mkF m 7 #[.val (.int pz)] [(.int (pz.toInt8.toInt32)), (.int (0 : Int32)), (.ref b1), (.ref b1)])) rfl rfl (hb hby dx_jdk_43_method_46_code_7)
  have V4 : Arv Z h4 b1 k1 .byte (1 : Int32) [(.int ((pz.toInt8.toInt32).toInt8.toInt32))] (.int (0 : Int32)) := Arv.set Arq3 qaq3 Sq3 Nq3 Hq3 Gq3 (fits_nar_byte _) W4 0 rfl (Nat.le_of_ble_eq_true rfl)
  have Z5 : n0 ≤ h4.size := Nat.le_trans Z2 (Keep.of_wr W4).1
  have K0_5 : Keep h0 h4 [] := K0_2.wr W4 (Or.inr l0_b1)
  have O5 : Old Z n0 h4 := O2.wr W4 g_b1
  have N4 := Fr.snoc X4 N0 g_b1
  obtain ⟨fs, hr, hrun, hended, hW, hsame⟩ := X4.leave (v := some (.ref b1)) (fun h => by rw [Bd.returns] at h; cases h)
  refine ⟨_, _, pre0 _ ?_, hrun, hended, _, _, rfl, ?_, ⟨_, rfl⟩, hW, hsame.mono (Nat.le_of_ble_eq_true rfl) (Nat.le_of_ble_eq_true rfl)⟩
  · show Steps p.tables e below (s₁.setTop (mkF m 0 #[.val (.int pz)] [])) _
    refine XS.iconst X0.here hx rfl (hb hby dx_jdk_43_method_46_code_0) ?_
    show Steps p.tables e below (s₁.setTop (mkF m 1 #[.val (.int pz)] [(.int (1 : Int32))])) _
    refine st1 _ ?_
    show Steps p.tables e below (T1.setTop (mkF m 3 #[.val (.int pz)] [(.ref b1)])) _
    refine XS.dup X1.here hx rfl (hb hby dx_jdk_43_method_46_code_3) rfl rfl ?_
    show Steps p.tables e below (T1.setTop (mkF m 4 #[.val (.int pz)] [(.ref b1), (.ref b1)])) _
    refine XS.iconst X1.here hx rfl (hb hby dx_jdk_43_method_46_code_4) ?_
    show Steps p.tables e below (T1.setTop (mkF m 5 #[.val (.int pz)] [(.int (0 : Int32)), (.ref b1), (.ref b1)])) _
    refine XS.iloadN X1.here hx rfl (hb hby dx_jdk_43_method_46_code_5) rfl ?_
    show Steps p.tables e below (T1.setTop (mkF m 6 #[.val (.int pz)] [(.int pz), (.int (0 : Int32)), (.ref b1), (.ref b1)])) _
    refine XS.i2b X1.here hx rfl (hb hby dx_jdk_43_method_46_code_6) rfl ?_
    show Steps p.tables e below (T1.setTop (mkF m 7 #[.val (.int pz)] [(.int (pz.toInt8.toInt32)), (.int (0 : Int32)), (.ref b1), (.ref b1)])) _
    refine st4 _ ?_
    show Steps p.tables e below (T4.setTop (mkF m 8 #[.val (.int pz)] [(.ref b1)])) _
    exact retOut X4 hx Bd.returns rfl (Or.inr (Or.inr (Or.inr (Or.inr ⟨rfl, rfl, rfl⟩)))) (hb hby dx_jdk_43_method_46_code_8) hr
  · show Qtob Z G1 kn pz h0 n0 _ T4.heap _
    rw [e4]
    exact ⟨b1, rfl, N4, K0_5, l0_b1⟩
theorem dx_jdk_42_method_151_code_0 : decode jdk_42_method_151_code 0 = .ok (.aload_n 0, 1) := by decide +kernel
theorem dx_jdk_42_method_151_code_1 : decode jdk_42_method_151_code 1 = .ok (.invokespecial 1, 3) := by decide +kernel
theorem dx_jdk_42_method_151_code_4 : decode jdk_42_method_151_code 4 = .ok (.aload_n 0, 1) := by decide +kernel
theorem dx_jdk_42_method_151_code_5 : decode jdk_42_method_151_code 5 = .ok (.aload_n 1, 1) := by decide +kernel
theorem dx_jdk_42_method_151_code_6 : decode jdk_42_method_151_code 6 = .ok (.putfield 9, 3) := by decide +kernel
theorem dx_jdk_42_method_151_code_9 : decode jdk_42_method_151_code 9 = .ok (.aload_n 0, 1) := by decide +kernel
theorem dx_jdk_42_method_151_code_10 : decode jdk_42_method_151_code 10 = .ok (.iload_n 2, 1) := by decide +kernel
theorem dx_jdk_42_method_151_code_11 : decode jdk_42_method_151_code 11 = .ok (.putfield 15, 3) := by decide +kernel
theorem dx_jdk_42_method_151_code_14 : decode jdk_42_method_151_code 14 = .ok (.return_, 1) := by decide +kernel
def Qsbb (Z : State) (G1 : Int32) (kn : Addr) (a1 : Addr) (b : Addr) (h0 : Heap) (n0 : Nat) (v : Option Value) (h : Heap) (L : List Loc) : Prop := v = none ∧ Fr n0 L ∧ Keep h0 h [a1] ∧ Exa Z h a1 "java/lang/String" ∧ Fld Z h a1 "java/lang/String" "value" "[B" (.ref b) ∧ Fld Z h a1 "java/lang/String" "coder" "B" (.int (0 : Int32))
theorem ef_jdk_42_method_151_code_RRI (m : MethodId) (x0 : Addr) (x1 : Addr) (x2 : Int32) : entryFrame m #[(.ref x0), (.ref x1), (.int x2)] 3 = mkF m 0 #[.val (.ref x0), .val (.ref x1), .val (.int x2)] [] := by first | (simp [entryFrame, mkF, argsToLocals, Value.category]; done) | rfl
abbrev y2 : MethodName := ⟨"java/lang/String", "<init>", "([BB)V"⟩
theorem pn_java_lang_String : plainName "java/lang/String" = true := by first | (simp [plainName, overriddenIn]; done) | decide +kernel
set_option maxRecDepth 65536 in
set_option maxHeartbeats 40000000 in
theorem rmsbb (l : Launch) (Z : State) (a0 : Array Value) (G1 : Int32) (kn : Addr) (hG : Glob Z a0 G1 kn) (ws : List Jvm.Cond) (a1 : Addr) (b : Addr) (h0 : Heap) (n0 : Nat) (Z0 : n0 ≤ h0.size) (X00 : Old Z n0 h0) (E_a1 : Exa Z h0 a1 "java/lang/String") (g_a1 : n0 ≤ a1) (F_value_a1 : Fld Z h0 a1 "java/lang/String" "value" "[B" .null) (F_coder_a1 : Fld Z h0 a1 "java/lang/String" "coder" "B" (.int (0 : Int32))) :
    MetFree l y2 (head1 (Jvm.Cond.code y2 jdk_42_method_151_code 3 none :: ws) ({ frames := 1, cells := 0, slots := 0, locals := 12 } : Room)) (fun a U => a = #[(.ref a1), (.ref b), (.int (0 : Int32))] ∧ Z.Warmed39 U.vm ∧ U.heap = h0) (fun _ _ _ _ _ => True) (fun _ U o U' => ∃ v L, o = .returned v ∧ Qsbb Z G1 kn a1 b h0 n0 v U'.heap L ∧ FrameEnd U o U' L ({ frames := 1, cells := 0, slots := 0, locals := 12 } : Room).cells ({ frames := 1, cells := 0, slots := 0, locals := 12 } : Room).slots) := by
  obtain ⟨hw, O_cs, P_cs, O_kn⟩ := id hG
  have W : ∀ (i : Nat) {d : Jvm.Cond}, tables_1[i]? = some d → d.before a0 Z = true := fun i d h => hw d (List.mem_of_getElem? h)
  refine MetFree.of_bodySF (plainFor_of_name pn_java_lang_String) hisR ?_
  intro p e s m args below meth c s₁ Bd hml0 hP hK
  obtain ⟨rfl, hZ, hh⟩ := hP
  have hx := Bd.exec
  have hby := Bd.bytes
  have hml : c.maxLocals = 3 := hml0
  have hown : s.vm.findClass "java/lang/String" = some m.cls := findClass_of_methodNamed Bd.named
  have hnm := (name_of_methodNamed Bd.named Bd.method).1
  have X0 : Stand p l e ({ frames := 1, cells := 0, slots := 0, locals := 12 } : Room) s m #[(.ref a1), (.ref b), (.int (0 : Int32))] below meth c s₁ [] 0 0 := Stand.of_body Bd
  have e0 : s₁.heap = h0 := by rw [← hh, Bd.state]; rfl
  have N0 := Fr.nil n0
  have pre0 : ∀ t, Steps p.tables e below (s₁.setTop (mkF m 0 #[.val (.ref a1), .val (.ref b), .val (.int (0 : Int32))] [])) t → Steps p.tables e below (s₁.setTop (entryFrame m #[(.ref a1), (.ref b), (.int (0 : Int32))] 3)) t := fun t kk_ => castTop (ef_jdk_42_method_151_code_RRI m a1 b (0 : Int32)) kk_
  obtain ⟨T6, X6, e6, st6⟩ := initO X0 hx hZ hown (W 11 rfl) (W 12 rfl) (W 13 rfl) e0 (g := (mkF m 1 #[.val (.ref a1), .val (.ref b), .val (.int (0 : Int32))] [(.ref a1)])) rfl (by rw [hml]; rfl) rfl (hb hby dx_jdk_42_method_151_code_1) (by decide) (W := 0) (by show 2 * 0 + _ ≤ _; exact Nat.le_of_eq rfl) (by decide)
  obtain ⟨T7, h7, X7, e7, W7, st7⟩ := putF X6 hx hZ hown (host := "") (Or.inl (W 28 rfl)) Via.refl e6 F_value_a1 E_a1 (Or.inr ⟨(W 29 rfl), rfl, hnm⟩) (W 2 rfl) (ty := (.array .byte)) (by decide) rfl rfl (g := (mkF m 6 #[.val (.ref a1), .val (.ref b), .val (.int (0 : Int32))] [(.ref b), (.ref a1)])) rfl rfl (hb hby dx_jdk_42_method_151_code_6)
  have Fw7 := F_value_a1.same W7
  have Z8 : n0 ≤ h7.size := Nat.le_trans Z0 (Keep.of_wr W7).1
  have K0_8 : Keep h0 h7 [a1] := (Keep.refl h0 [a1]).wr W7 (Or.inl (List.mem_of_getElem? (i := 0) rfl))
  have O8 : Old Z n0 h7 := X00.wr W7 g_a1
  have N7 := Fr.snoc X7 N0 g_a1
  have f9 := (E_a1.wr W7)
  have f10 := (F_coder_a1.other W7 (Or.inr (slot_ne (Or.inr (W 27 rfl)) (Or.inr (W 29 rfl)) (by decide) (t := .byte) (t' := (.array .byte)) (by decide) (by decide))))
  obtain ⟨T11, h11, X11, e11, W11, st11⟩ := putF X7 hx hZ hown (host := "") (Or.inl (W 26 rfl)) Via.refl e7 f10 f9 (Or.inr ⟨(W 27 rfl), rfl, hnm⟩) (W 2 rfl) (ty := .byte) (by decide) rfl rfl (g := (mkF m 11 #[.val (.ref a1), .val (.ref b), .val (.int (0 : Int32))] [(.int (0 : Int32)), (.ref a1)])) rfl rfl (hb hby dx_jdk_42_method_151_code_11)
  have Fw11 := f10.same W11
  have Z12 : n0 ≤ h11.size := Nat.le_trans Z8 (Keep.of_wr W11).1
  have K0_12 : Keep h0 h11 [a1] := K0_8.wr W11 (Or.inl (List.mem_of_getElem? (i := 0) rfl))
  have O12 : Old Z n0 h11 := O8.wr W11 g_a1
  have N11 := Fr.snoc X11 N7 g_a1
  have f13 := (f9.wr W11)
  have f14 := (Fw7.other W11 (Or.inr (slot_ne (Or.inr (W 29 rfl)) (Or.inr (W 27 rfl)) (by decide) (t := (.array .byte)) (t' := .byte) (by decide) (by decide))))
  obtain ⟨fs, hr, hrun, hended, hW, hsame⟩ := X11.leave (v := none) (fun _ => rfl)
  refine ⟨_, _, pre0 _ ?_, hrun, hended, _, _, rfl, ?_, ⟨_, rfl⟩, hW, hsame.mono (Nat.le_of_ble_eq_true rfl) (Nat.le_of_ble_eq_true rfl)⟩
  · show Steps p.tables e below (s₁.setTop (mkF m 0 #[.val (.ref a1), .val (.ref b), .val (.int (0 : Int32))] [])) _
    refine XS.aloadN X0.here hx rfl (hb hby dx_jdk_42_method_151_code_0) rfl rfl ?_
    show Steps p.tables e below (s₁.setTop (mkF m 1 #[.val (.ref a1), .val (.ref b), .val (.int (0 : Int32))] [(.ref a1)])) _
    refine st6 _ ?_
    show Steps p.tables e below (T6.setTop (mkF m 4 #[.val (.ref a1), .val (.ref b), .val (.int (0 : Int32))] [])) _
    refine XS.aloadN X6.here hx rfl (hb hby dx_jdk_42_method_151_code_4) rfl rfl ?_
    show Steps p.tables e below (T6.setTop (mkF m 5 #[.val (.ref a1), .val (.ref b), .val (.int (0 : Int32))] [(.ref a1)])) _
    refine XS.aloadN X6.here hx rfl (hb hby dx_jdk_42_method_151_code_5) rfl rfl ?_
    show Steps p.tables e below (T6.setTop (mkF m 6 #[.val (.ref a1), .val (.ref b), .val (.int (0 : Int32))] [(.ref b), (.ref a1)])) _
    refine st7 _ ?_
    show Steps p.tables e below (T7.setTop (mkF m 9 #[.val (.ref a1), .val (.ref b), .val (.int (0 : Int32))] [])) _
    refine XS.aloadN X7.here hx rfl (hb hby dx_jdk_42_method_151_code_9) rfl rfl ?_
    show Steps p.tables e below (T7.setTop (mkF m 10 #[.val (.ref a1), .val (.ref b), .val (.int (0 : Int32))] [(.ref a1)])) _
    refine XS.iloadN X7.here hx rfl (hb hby dx_jdk_42_method_151_code_10) rfl ?_
    show Steps p.tables e below (T7.setTop (mkF m 11 #[.val (.ref a1), .val (.ref b), .val (.int (0 : Int32))] [(.int (0 : Int32)), (.ref a1)])) _
    refine st11 _ ?_
    show Steps p.tables e below (T11.setTop (mkF m 14 #[.val (.ref a1), .val (.ref b), .val (.int (0 : Int32))] [])) _
    exact X11.returnOut hx Bd.returns (hb hby dx_jdk_42_method_151_code_14) hr
  · show Qsbb Z G1 kn a1 b h0 n0 _ T11.heap _
    rw [e11]
    exact ⟨rfl, N11, K0_12, f13, f14, Fw11⟩
theorem dx_jdk_42_method_139_code_0 : decode jdk_42_method_139_code 0 = .ok (.getstatic 38, 3) := by decide +kernel
theorem dx_jdk_42_method_139_code_3 : decode jdk_42_method_139_code 3 = .ok (.ifCond .eq 23, 3) := by decide +kernel
theorem dx_jdk_42_method_139_code_6 : decode jdk_42_method_139_code 6 = .ok (.iload_n 0, 1) := by decide +kernel
theorem dx_jdk_42_method_139_code_7 : decode jdk_42_method_139_code 7 = .ok (.invokestatic 1015, 3) := by decide +kernel
theorem pd__C_Z : parseMethodDescriptor "(C)Z" = some ⟨[.char], some .boolean⟩ := by decide +kernel
theorem dx_jdk_42_method_139_code_10 : decode jdk_42_method_139_code 10 = .ok (.ifCond .eq 16, 3) := by decide +kernel
theorem dx_jdk_42_method_139_code_13 : decode jdk_42_method_139_code 13 = .ok (.new 10, 3) := by decide +kernel
theorem dx_jdk_42_method_139_code_16 : decode jdk_42_method_139_code 16 = .ok (.dup, 1) := by decide +kernel
theorem dx_jdk_42_method_139_code_17 : decode jdk_42_method_139_code 17 = .ok (.iload_n 0, 1) := by decide +kernel
theorem dx_jdk_42_method_139_code_18 : decode jdk_42_method_139_code 18 = .ok (.invokestatic 1018, 3) := by decide +kernel
theorem pd__C__B : parseMethodDescriptor "(C)[B" = some ⟨[.char], some (.array .byte)⟩ := by decide +kernel
theorem dx_jdk_42_method_139_code_21 : decode jdk_42_method_139_code 21 = .ok (.iconst 0, 1) := by decide +kernel
theorem dx_jdk_42_method_139_code_22 : decode jdk_42_method_139_code 22 = .ok (.invokespecial 209, 3) := by decide +kernel
theorem pd___BB_V : parseMethodDescriptor "([BB)V" = some ⟨[(.array .byte), .byte], none⟩ := by decide +kernel
theorem dx_jdk_42_method_139_code_25 : decode jdk_42_method_139_code 25 = .ok (.areturn, 1) := by decide +kernel
def Qvo (Z : State) (G1 : Int32) (kn : Addr) (pz : Int32) (h0 : Heap) (n0 : Nat) (v : Option Value) (h : Heap) (L : List Loc) : Prop := ∃ b : Addr, v = some (.ref b) ∧ Fr n0 L ∧ Keep h0 h [] ∧ h0.size ≤ b ∧ Exa Z h b "java/lang/String"
theorem ef_jdk_42_method_139_code_I (m : MethodId) (x0 : Int32) : entryFrame m #[(.int x0)] 1 = mkF m 0 #[.val (.int x0)] [] := by first | (simp [entryFrame, mkF, argsToLocals, Value.category]; done) | rfl
abbrev y3 : MethodName := ⟨"java/lang/String", "valueOf", "(C)Ljava/lang/String;"⟩
set_option maxRecDepth 65536 in
set_option maxHeartbeats 40000000 in
theorem rmvo (l : Launch) (Z : State) (a0 : Array Value) (G1 : Int32) (kn : Addr) (hG : Glob Z a0 G1 kn) (ws : List Jvm.Cond) (pz : Int32) (h0 : Heap) (n0 : Nat) (Z0 : n0 ≤ h0.size) (X00 : Old Z n0 h0) (hp : ¬ ((255 : Int32) < pz)) :
    MetFree l y3 (head1 (Jvm.Cond.code y3 jdk_42_method_139_code 1 (some (.object "java/lang/String")) :: ws) ({ frames := 2, cells := 2, slots := 5, locals := 27 } : Room)) (fun a U => a = #[(.int pz)] ∧ Z.Warmed39 U.vm ∧ U.heap = h0) (fun _ _ _ _ _ => True) (fun _ U o U' => ∃ v L, o = .returned v ∧ Qvo Z G1 kn pz h0 n0 v U'.heap L ∧ FrameEnd U o U' L ({ frames := 2, cells := 2, slots := 5, locals := 27 } : Room).cells ({ frames := 2, cells := 2, slots := 5, locals := 27 } : Room).slots) := by
  obtain ⟨hw, O_cs, P_cs, O_kn⟩ := id hG
  have W : ∀ (i : Nat) {d : Jvm.Cond}, tables_1[i]? = some d → d.before a0 Z = true := fun i d h => hw d (List.mem_of_getElem? h)
  refine MetFree.of_bodySF (plainFor_of_name pn_java_lang_String) hisR ?_
  intro p e s m args below meth c s₁ Bd hml0 hP hK
  obtain ⟨rfl, hZ, hh⟩ := hP
  have hx := Bd.exec
  have hby := Bd.bytes
  have hml : c.maxLocals = 1 := hml0
  have hown : s.vm.findClass "java/lang/String" = some m.cls := findClass_of_methodNamed Bd.named
  have hnm := (name_of_methodNamed Bd.named Bd.method).1
  have X0 : Stand p l e ({ frames := 2, cells := 2, slots := 5, locals := 27 } : Room) s m #[(.int pz)] below meth c s₁ [] 0 0 := Stand.of_body Bd
  have e0 : s₁.heap = h0 := by rw [← hh, Bd.state]; rfl
  have N0 := Fr.nil n0
  have pre0 : ∀ t, Steps p.tables e below (s₁.setTop (mkF m 0 #[.val (.int pz)] [])) t → Steps p.tables e below (s₁.setTop (entryFrame m #[(.int pz)] 1)) t := fun t kk_ => castTop (ef_jdk_42_method_139_code_I m pz) kk_
  obtain ⟨T15, X15, e15, st15⟩ := getS2 X0 hx hZ hown (host := "") (Or.inl (W 14 rfl)) Via.refl e0 (O_cs.ext X00.2) (g := (mkF m 0 #[.val (.int pz)] [])) rfl (hb hby dx_jdk_42_method_139_code_0)
  -- pc 7: java/lang/StringLatin1.canEncode
  obtain ⟨_, _, ⟨T16, L16, k16, n16⟩, -, X16, ⟨Lc16, hQ16, l16, y16, z16⟩, st16⟩ := Jvm.LawKit.callS X15 hx (y := y0) hown (mvT hZ (W 66 rfl)) (mvT hZ (W 67 rfl)) (mvT hZ (W 68 rfl)) (mvT hZ (W 69 rfl)) (by decide) (backOf (W := 0) (rmcenc l Z a0 G1 kn hG [] pz h0 n0 Z0 X00 (by first | assumption | decide | rfl)) hZ (W 69 rfl) (W 68 rfl) (by decide) (by decide)) (g := (mkF m 7 #[.val (.int pz)] [(.int pz)])) rfl (by rw [hml]; rfl) (argsL := [(.int pz)]) (rest := []) (lenOf pd__C_Z rfl) rfl (by show 2 * 0 + _ ≤ _; exact Nat.le_of_eq rfl) (hb hby dx_jdk_42_method_139_code_7) (fun _ _ => ⟨rfl, e15, (by decide : 0 + 0 ≤ _), (by decide : 0 + 0 ≤ _)⟩)
  dsimp only [Pt.U, Pt.locs, Pt.cells, Pt.slots] at X16 l16 y16 z16 st16 hQ16
  subst l16 y16 z16
  obtain ⟨rfl, N16q, eq16⟩ := hQ16
  have N16 := Fr.app N0 N16q
  obtain ⟨T17, h17, X17, e17, E17, A17, D17, -, st17⟩ := newO X16 hx hZ hown (W 70 rfl) (W 2 rfl) (W 3 rfl) eq16 (g := (mkF m 13 #[.val (.int pz)] [])) rfl (hb hby dx_jdk_42_method_139_code_13) (by decide) (by decide)
  obtain ⟨b17, g17⟩ : ∃ z, z = h0.size := ⟨_, rfl⟩
  rw [← g17] at A17 D17 st17
  have Z18 : n0 ≤ h17.size := Nat.le_trans Z0 E17.1
  have K0_18 : Keep h0 h17 [] := (Keep.refl h0 []).ext E17
  have O18 : Old Z n0 h17 := X00.ext E17
  have lo_b17 : h0.size ≤ b17 := Nat.le_of_eq g17.symm
  have g_b17 : n0 ≤ b17 := Nat.le_trans Z0 lo_b17
  have l0_b17 : h0.size ≤ b17 := Nat.le_trans (Keep.refl h0 []).1 lo_b17
  have F_coder_b17 : Fld Z h17 b17 "java/lang/String" "coder" "B" (.int (0 : Int32)) := D17 (Or.inr (W 27 rfl)) (ty := .byte) (by decide)
  have F_value_b17 : Fld Z h17 b17 "java/lang/String" "value" "[B" .null := D17 (Or.inr (W 29 rfl)) (ty := (.array .byte)) (by decide)
  -- pc 18: java/lang/StringLatin1.toBytes
  obtain ⟨_, _, ⟨T19, L19, k19, n19⟩, -, X19, ⟨Lc19, hQ19, l19, y19, z19⟩, st19⟩ := Jvm.LawKit.callS X17 hx (y := y1) hown (mvT hZ (W 71 rfl)) (mvT hZ (W 72 rfl)) (mvT hZ (W 68 rfl)) (mvT hZ (W 73 rfl)) (by decide) (backOf (W := 2) (rmtob l Z a0 G1 kn hG [] pz h17 n0 Z18 O18) hZ (W 73 rfl) (W 68 rfl) (by decide) (by decide)) (g := (mkF m 18 #[.val (.int pz)] [(.int pz), (.ref b17), (.ref b17)])) rfl (by rw [hml]; rfl) (argsL := [(.int pz)]) (rest := [(.ref b17), (.ref b17)]) (lenOf pd__C__B rfl) rfl (by show 2 * 0 + _ ≤ _; exact Nat.le_of_eq rfl) (hb hby dx_jdk_42_method_139_code_18) (fun _ _ => ⟨rfl, e17, (by decide : 1 + 1 ≤ _), (by decide : 4 + 1 ≤ _)⟩)
  dsimp only [Pt.U, Pt.locs, Pt.cells, Pt.slots] at X19 l19 y19 z19 st19 hQ19
  subst l19 y19 z19
  obtain ⟨b_19, rfl, N19q, K19, f19_0⟩ := hQ19
  have N19 := Fr.app N16 N19q
  have Z20 : n0 ≤ T19.heap.size := Nat.le_trans Z18 K19.1
  have K0_20 : Keep h0 T19.heap [] := K0_18.trans K19 all0
  have O20 : Old Z n0 T19.heap := O18.keep K19 all0
  have lo_b_19 : h17.size ≤ b_19 := f19_0
  have g_b_19 : n0 ≤ b_19 := Nat.le_trans Z18 lo_b_19
  have l0_b_19 : h0.size ≤ b_19 := Nat.le_trans K0_18.1 lo_b_19
  have f22 := (A17.keep K19)
  have f23 := (F_value_b17.keep K19 nin0)
  have f24 := (F_coder_b17.keep K19 nin0)
  -- pc 22: java/lang/String.<init>
  obtain ⟨_, _, ⟨T21, L21, k21, n21⟩, -, X21, ⟨Lc21, hQ21, l21, y21, z21⟩, st21⟩ := X19.specialBack hx (y := y2) rfl hown (mvT hZ (W 74 rfl)) (mvT hZ (W 75 rfl)) (mvT hZ (W 76 rfl)) (by decide) (backOf (W := 1) (rmsbb l Z a0 G1 kn hG [] b17 b_19 T19.heap n0 Z20 O20 f22 g_b17 f23 f24) hZ (W 76 rfl) (W 3 rfl) (by decide) (by decide)) (g := (mkF m 22 #[.val (.int pz)] [(.int (0 : Int32)), (.ref b_19), (.ref b17), (.ref b17)])) rfl (by rw [hml]; rfl) (Steps.refl _) (a := b17) (argsL := [(.ref b_19), (.int (0 : Int32))]) (rest := [(.ref b17)]) (lenOf pd___BB_V rfl) rfl (by show 2 * 0 + _ ≤ _; exact Nat.le_of_eq rfl) (hb hby dx_jdk_42_method_139_code_22) (fun _ _ => ⟨rfl, rfl, (by decide : 2 + 0 ≤ _), (by decide : 5 + 0 ≤ _)⟩)
  dsimp only [Pt.U, Pt.locs, Pt.cells, Pt.slots] at X21 l21 y21 z21 st21 hQ21
  subst l21 y21 z21
  obtain ⟨rfl, N21q, K21, f21_0, f21_1, f21_2⟩ := hQ21
  have N21 := Fr.app N19 N21q
  have Z25 : n0 ≤ T21.heap.size := Nat.le_trans Z20 K21.1
  have K0_25 : Keep h0 T21.heap [] := K0_20.trans K21 (allS (Or.inr l0_b17) all0)
  have O25 : Old Z n0 T21.heap := O20.keep K21 (allS g_b17 all0)
  obtain ⟨fs, hr, hrun, hended, hW, hsame⟩ := X21.leave (v := some (.ref b17)) (fun h => by rw [Bd.returns] at h; cases h)
  refine ⟨_, _, pre0 _ ?_, hrun, hended, _, _, rfl, ?_, ⟨_, rfl⟩, hW, hsame.mono (Nat.le_of_ble_eq_true rfl) (Nat.le_of_ble_eq_true rfl)⟩
  · show Steps p.tables e below (s₁.setTop (mkF m 0 #[.val (.int pz)] [])) _
    refine st15 _ ?_
    show Steps p.tables e below (T15.setTop (mkF m 3 #[.val (.int pz)] [(.int G1)])) _
    refine XS.ifNo X15.here hx rfl (hb hby dx_jdk_42_method_139_code_3) rfl ((if0 _ _).trans (feq (P_cs : ¬ (G1 = (0 : Int32)))).1) ?_
    show Steps p.tables e below (T15.setTop (mkF m 6 #[.val (.int pz)] [])) _
    refine XS.iloadN X15.here hx rfl (hb hby dx_jdk_42_method_139_code_6) rfl ?_
    show Steps p.tables e below (T15.setTop (mkF m 7 #[.val (.int pz)] [(.int pz)])) _
    refine st16 _ ?_
    show Steps p.tables e below (T16.setTop (mkF m 10 #[.val (.int pz)] [(.int (1 : Int32))])) _
    refine XS.ifNo X16.here hx rfl (hb hby dx_jdk_42_method_139_code_10) rfl ((if0 _ _).trans (feq (by decide : ¬ ((1 : Int32) = (0 : Int32)))).1) ?_
    show Steps p.tables e below (T16.setTop (mkF m 13 #[.val (.int pz)] [])) _
    refine st17 _ ?_
    show Steps p.tables e below (T17.setTop (mkF m 16 #[.val (.int pz)] [(.ref b17)])) _
    refine XS.dup X17.here hx rfl (hb hby dx_jdk_42_method_139_code_16) rfl rfl ?_
    show Steps p.tables e below (T17.setTop (mkF m 17 #[.val (.int pz)] [(.ref b17), (.ref b17)])) _
    refine XS.iloadN X17.here hx rfl (hb hby dx_jdk_42_method_139_code_17) rfl ?_
    show Steps p.tables e below (T17.setTop (mkF m 18 #[.val (.int pz)] [(.int pz), (.ref b17), (.ref b17)])) _
    refine st19 _ ?_
    show Steps p.tables e below (T19.setTop (mkF m 21 #[.val (.int pz)] [(.ref b_19), (.ref b17), (.ref b17)])) _
    refine XS.iconst X19.here hx rfl (hb hby dx_jdk_42_method_139_code_21) ?_
    show Steps p.tables e below (T19.setTop (mkF m 22 #[.val (.int pz)] [(.int (0 : Int32)), (.ref b_19), (.ref b17), (.ref b17)])) _
    refine st21.trans ?_
    show Steps p.tables e below (T21.setTop (mkF m 25 #[.val (.int pz)] [(.ref b17)])) _
    exact retOut X21 hx Bd.returns rfl (Or.inr (Or.inr (Or.inr (Or.inr ⟨rfl, rfl, rfl⟩)))) (hb hby dx_jdk_42_method_139_code_25) hr
  · show Qvo Z G1 kn pz h0 n0 _ T21.heap _
    exact ⟨b17, rfl, N21, K0_25, l0_b17, f21_0⟩
theorem dx_prog_32_method_1_code_0 : decode prog_32_method_1_code 0 = .ok (.aload_n 0, 1) := by decide +kernel
theorem dx_prog_32_method_1_code_1 : decode prog_32_method_1_code 1 = .ok (.invokespecial 1, 3) := by decide +kernel
theorem dx_prog_32_method_1_code_4 : decode prog_32_method_1_code 4 = .ok (.aload_n 0, 1) := by decide +kernel
theorem dx_prog_32_method_1_code_5 : decode prog_32_method_1_code 5 = .ok (.aload_n 1, 1) := by decide +kernel
theorem dx_prog_32_method_1_code_6 : decode prog_32_method_1_code 6 = .ok (.putfield 7, 3) := by decide +kernel
theorem dx_prog_32_method_1_code_9 : decode prog_32_method_1_code 9 = .ok (.aload_n 0, 1) := by decide +kernel
theorem dx_prog_32_method_1_code_10 : decode prog_32_method_1_code 10 = .ok (.aload_n 2, 1) := by decide +kernel
theorem dx_prog_32_method_1_code_11 : decode prog_32_method_1_code 11 = .ok (.putfield 13, 3) := by decide +kernel
theorem dx_prog_32_method_1_code_14 : decode prog_32_method_1_code 14 = .ok (.aload_n 0, 1) := by decide +kernel
theorem dx_prog_32_method_1_code_15 : decode prog_32_method_1_code 15 = .ok (.aload_n 3, 1) := by decide +kernel
theorem dx_prog_32_method_1_code_16 : decode prog_32_method_1_code 16 = .ok (.putfield 17, 3) := by decide +kernel
theorem dx_prog_32_method_1_code_19 : decode prog_32_method_1_code 19 = .ok (.return_, 1) := by decide +kernel
def Qdfi (Z : State) (G1 : Int32) (kn : Addr) (a1 : Addr) (u0 : Value) (u1 : Value) (u2 : Value) (h0 : Heap) (n0 : Nat) (v : Option Value) (h : Heap) (L : List Loc) : Prop := v = none ∧ Fr n0 L ∧ Keep h0 h [a1] ∧ Exa Z h a1 "com/example/clauses_to_controls/clausestocontrols/service/DependencyFinding" ∧ Fld Z h a1 "com/example/clauses_to_controls/clausestocontrols/service/DependencyFinding" "kind" "Lcom/example/clauses_to_controls/clausestocontrols/service/DependencyFinding$Kind;" u0 ∧ Fld Z h a1 "com/example/clauses_to_controls/clausestocontrols/service/DependencyFinding" "component" "Ljava/lang/String;" u1 ∧ Fld Z h a1 "com/example/clauses_to_controls/clausestocontrols/service/DependencyFinding" "group" "Lcom/example/clauses_to_controls/clausestocontrols/model/DependencyGroup;" u2
theorem ef_prog_32_method_1_code_RVVV (m : MethodId) (x0 : Addr) (x1 : Value) (x2 : Value) (x3 : Value) (r1 : x1.isRef = true) (r2 : x2.isRef = true) (r3 : x3.isRef = true) : entryFrame m #[(.ref x0), x1, x2, x3] 4 = mkF m 0 #[.val (.ref x0), .val x1, .val x2, .val x3] [] := by
  simp [entryFrame, mkF, argsToLocals, own_cr, own_ci, own_cj, own_cn, own_cat r1, own_cat r2, own_cat r3]
abbrev y4 : MethodName := ⟨"com/example/clauses_to_controls/clausestocontrols/service/DependencyFinding", "<init>", "(Lcom/example/clauses_to_controls/clausestocontrols/service/DependencyFinding$Kind;Ljava/lang/String;Lcom/example/clauses_to_controls/clausestocontrols/model/DependencyGroup;)V"⟩
theorem pn_com_example_clauses_to_controls_clausestocontrols_service_DependencyFinding : plainName "com/example/clauses_to_controls/clausestocontrols/service/DependencyFinding" = true := by first | (simp [plainName, overriddenIn]; done) | decide +kernel
set_option maxRecDepth 65536 in
set_option maxHeartbeats 40000000 in
theorem rmdfi (l : Launch) (Z : State) (a0 : Array Value) (G1 : Int32) (kn : Addr) (hG : Glob Z a0 G1 kn) (ws : List Jvm.Cond) (a1 : Addr) (u0 : Value) (u1 : Value) (u2 : Value) (h0 : Heap) (n0 : Nat) (Z0 : n0 ≤ h0.size) (X00 : Old Z n0 h0) (E_a1 : Exa Z h0 a1 "com/example/clauses_to_controls/clausestocontrols/service/DependencyFinding") (g_a1 : n0 ≤ a1) (F_kind_a1 : Fld Z h0 a1 "com/example/clauses_to_controls/clausestocontrols/service/DependencyFinding" "kind" "Lcom/example/clauses_to_controls/clausestocontrols/service/DependencyFinding$Kind;" .null) (F_component_a1 : Fld Z h0 a1 "com/example/clauses_to_controls/clausestocontrols/service/DependencyFinding" "component" "Ljava/lang/String;" .null) (F_group_a1 : Fld Z h0 a1 "com/example/clauses_to_controls/clausestocontrols/service/DependencyFinding" "group" "Lcom/example/clauses_to_controls/clausestocontrols/model/DependencyGroup;" .null) (ru0 : u0.isRef = true) (ru1 : u1.isRef = true) (ru2 : u2.isRef = true) :
    MetFree l y4 (head1 (Jvm.Cond.code y4 prog_32_method_1_code 4 none :: ws) ({ frames := 1, cells := 0, slots := 0, locals := 12 } : Room)) (fun a U => a = #[(.ref a1), u0, u1, u2] ∧ Z.Warmed39 U.vm ∧ U.heap = h0) (fun _ _ _ _ _ => True) (fun _ U o U' => ∃ v L, o = .returned v ∧ Qdfi Z G1 kn a1 u0 u1 u2 h0 n0 v U'.heap L ∧ FrameEnd U o U' L ({ frames := 1, cells := 0, slots := 0, locals := 12 } : Room).cells ({ frames := 1, cells := 0, slots := 0, locals := 12 } : Room).slots) := by
  obtain ⟨hw, O_cs, P_cs, O_kn⟩ := id hG
  have W : ∀ (i : Nat) {d : Jvm.Cond}, tables_1[i]? = some d → d.before a0 Z = true := fun i d h => hw d (List.mem_of_getElem? h)
  refine MetFree.of_bodySF (plainFor_of_name pn_com_example_clauses_to_controls_clausestocontrols_service_DependencyFinding) hisR ?_
  intro p e s m args below meth c s₁ Bd hml0 hP hK
  obtain ⟨rfl, hZ, hh⟩ := hP
  have hx := Bd.exec
  have hby := Bd.bytes
  have hml : c.maxLocals = 4 := hml0
  have hown : s.vm.findClass "com/example/clauses_to_controls/clausestocontrols/service/DependencyFinding" = some m.cls := findClass_of_methodNamed Bd.named
  have hnm := (name_of_methodNamed Bd.named Bd.method).1
  have X0 : Stand p l e ({ frames := 1, cells := 0, slots := 0, locals := 12 } : Room) s m #[(.ref a1), u0, u1, u2] below meth c s₁ [] 0 0 := Stand.of_body Bd
  have e0 : s₁.heap = h0 := by rw [← hh, Bd.state]; rfl
  have N0 := Fr.nil n0
  have pre0 : ∀ t, Steps p.tables e below (s₁.setTop (mkF m 0 #[.val (.ref a1), .val u0, .val u1, .val u2] [])) t → Steps p.tables e below (s₁.setTop (entryFrame m #[(.ref a1), u0, u1, u2] 4)) t := fun t kk_ => castTop (ef_prog_32_method_1_code_RVVV m a1 u0 u1 u2 ru0 ru1 ru2) kk_
  obtain ⟨T26, X26, e26, st26⟩ := initO X0 hx hZ hown (W 42 rfl) (W 12 rfl) (W 13 rfl) e0 (g := (mkF m 1 #[.val (.ref a1), .val u0, .val u1, .val u2] [(.ref a1)])) rfl (by rw [hml]; rfl) rfl (hb hby dx_prog_32_method_1_code_1) (by decide) (W := 0) (by show 2 * 0 + _ ≤ _; exact Nat.le_of_eq rfl) (by decide)
  obtain ⟨T27, h27, X27, e27, W27, st27⟩ := putF X26 hx hZ hown (host := "") (Or.inl (W 43 rfl)) Via.refl e26 F_kind_a1 E_a1 (Or.inr ⟨(W 44 rfl), rfl, hnm⟩) (W 35 rfl) (ty := (.object "com/example/clauses_to_controls/clausestocontrols/service/DependencyFinding$Kind")) (by decide) (own_nar rfl ru0) (own_fits rfl ru0) (g := (mkF m 6 #[.val (.ref a1), .val u0, .val u1, .val u2] [u0, (.ref a1)])) rfl rfl (hb hby dx_prog_32_method_1_code_6)
  have Fw27 := F_kind_a1.same W27
  have Z28 : n0 ≤ h27.size := Nat.le_trans Z0 (Keep.of_wr W27).1
  have K0_28 : Keep h0 h27 [a1] := (Keep.refl h0 [a1]).wr W27 (Or.inl (List.mem_of_getElem? (i := 0) rfl))
  have O28 : Old Z n0 h27 := X00.wr W27 g_a1
  have N27 := Fr.snoc X27 N0 g_a1
  have f29 := (E_a1.wr W27)
  have f30 := (F_component_a1.other W27 (Or.inr (slot_ne (Or.inr (W 46 rfl)) (Or.inr (W 44 rfl)) (by decide) (t := (.object "java/lang/String")) (t' := (.object "com/example/clauses_to_controls/clausestocontrols/service/DependencyFinding$Kind")) (by decide) (by decide))))
  obtain ⟨T31, h31, X31, e31, W31, st31⟩ := putF X27 hx hZ hown (host := "") (Or.inl (W 45 rfl)) Via.refl e27 f30 f29 (Or.inr ⟨(W 46 rfl), rfl, hnm⟩) (W 35 rfl) (ty := (.object "java/lang/String")) (by decide) (own_nar rfl ru1) (own_fits rfl ru1) (g := (mkF m 11 #[.val (.ref a1), .val u0, .val u1, .val u2] [u1, (.ref a1)])) rfl rfl (hb hby dx_prog_32_method_1_code_11)
  have Fw31 := f30.same W31
  have Z32 : n0 ≤ h31.size := Nat.le_trans Z28 (Keep.of_wr W31).1
  have K0_32 : Keep h0 h31 [a1] := K0_28.wr W31 (Or.inl (List.mem_of_getElem? (i := 0) rfl))
  have O32 : Old Z n0 h31 := O28.wr W31 g_a1
  have N31 := Fr.snoc X31 N27 g_a1
  have f33 := (f29.wr W31)
  have f34 := ((F_group_a1.other W27 (Or.inr (slot_ne (Or.inr (W 48 rfl)) (Or.inr (W 44 rfl)) (by decide) (t := (.object "com/example/clauses_to_controls/clausestocontrols/model/DependencyGroup")) (t' := (.object "com/example/clauses_to_controls/clausestocontrols/service/DependencyFinding$Kind")) (by decide) (by decide)))).other W31 (Or.inr (slot_ne (Or.inr (W 48 rfl)) (Or.inr (W 46 rfl)) (by decide) (t := (.object "com/example/clauses_to_controls/clausestocontrols/model/DependencyGroup")) (t' := (.object "java/lang/String")) (by decide) (by decide))))
  obtain ⟨T35, h35, X35, e35, W35, st35⟩ := putF X31 hx hZ hown (host := "") (Or.inl (W 47 rfl)) Via.refl e31 f34 f33 (Or.inr ⟨(W 48 rfl), rfl, hnm⟩) (W 35 rfl) (ty := (.object "com/example/clauses_to_controls/clausestocontrols/model/DependencyGroup")) (by decide) (own_nar rfl ru2) (own_fits rfl ru2) (g := (mkF m 16 #[.val (.ref a1), .val u0, .val u1, .val u2] [u2, (.ref a1)])) rfl rfl (hb hby dx_prog_32_method_1_code_16)
  have Fw35 := f34.same W35
  have Z36 : n0 ≤ h35.size := Nat.le_trans Z32 (Keep.of_wr W35).1
  have K0_36 : Keep h0 h35 [a1] := K0_32.wr W35 (Or.inl (List.mem_of_getElem? (i := 0) rfl))
  have O36 : Old Z n0 h35 := O32.wr W35 g_a1
  have N35 := Fr.snoc X35 N31 g_a1
  have f37 := (f33.wr W35)
  have f38 := ((Fw27.other W31 (Or.inr (slot_ne (Or.inr (W 44 rfl)) (Or.inr (W 46 rfl)) (by decide) (t := (.object "com/example/clauses_to_controls/clausestocontrols/service/DependencyFinding$Kind")) (t' := (.object "java/lang/String")) (by decide) (by decide)))).other W35 (Or.inr (slot_ne (Or.inr (W 44 rfl)) (Or.inr (W 48 rfl)) (by decide) (t := (.object "com/example/clauses_to_controls/clausestocontrols/service/DependencyFinding$Kind")) (t' := (.object "com/example/clauses_to_controls/clausestocontrols/model/DependencyGroup")) (by decide) (by decide))))
  have f39 := (Fw31.other W35 (Or.inr (slot_ne (Or.inr (W 46 rfl)) (Or.inr (W 48 rfl)) (by decide) (t := (.object "java/lang/String")) (t' := (.object "com/example/clauses_to_controls/clausestocontrols/model/DependencyGroup")) (by decide) (by decide))))
  obtain ⟨fs, hr, hrun, hended, hW, hsame⟩ := X35.leave (v := none) (fun _ => rfl)
  refine ⟨_, _, pre0 _ ?_, hrun, hended, _, _, rfl, ?_, ⟨_, rfl⟩, hW, hsame.mono (Nat.le_of_ble_eq_true rfl) (Nat.le_of_ble_eq_true rfl)⟩
  · show Steps p.tables e below (s₁.setTop (mkF m 0 #[.val (.ref a1), .val u0, .val u1, .val u2] [])) _
    refine XS.aloadN X0.here hx rfl (hb hby dx_prog_32_method_1_code_0) rfl rfl ?_
    show Steps p.tables e below (s₁.setTop (mkF m 1 #[.val (.ref a1), .val u0, .val u1, .val u2] [(.ref a1)])) _
    refine st26 _ ?_
    show Steps p.tables e below (T26.setTop (mkF m 4 #[.val (.ref a1), .val u0, .val u1, .val u2] [])) _
    refine XS.aloadN X26.here hx rfl (hb hby dx_prog_32_method_1_code_4) rfl rfl ?_
    show Steps p.tables e below (T26.setTop (mkF m 5 #[.val (.ref a1), .val u0, .val u1, .val u2] [(.ref a1)])) _
    refine XS.aloadN X26.here hx rfl (hb hby dx_prog_32_method_1_code_5) rfl ru0 ?_
    show Steps p.tables e below (T26.setTop (mkF m 6 #[.val (.ref a1), .val u0, .val u1, .val u2] [u0, (.ref a1)])) _
    refine st27 _ ?_
    show Steps p.tables e below (T27.setTop (mkF m 9 #[.val (.ref a1), .val u0, .val u1, .val u2] [])) _
    refine XS.aloadN X27.here hx rfl (hb hby dx_prog_32_method_1_code_9) rfl rfl ?_
    show Steps p.tables e below (T27.setTop (mkF m 10 #[.val (.ref a1), .val u0, .val u1, .val u2] [(.ref a1)])) _
    refine XS.aloadN X27.here hx rfl (hb hby dx_prog_32_method_1_code_10) rfl ru1 ?_
    show Steps p.tables e below (T27.setTop (mkF m 11 #[.val (.ref a1), .val u0, .val u1, .val u2] [u1, (.ref a1)])) _
    refine st31 _ ?_
    show Steps p.tables e below (T31.setTop (mkF m 14 #[.val (.ref a1), .val u0, .val u1, .val u2] [])) _
    refine XS.aloadN X31.here hx rfl (hb hby dx_prog_32_method_1_code_14) rfl rfl ?_
    show Steps p.tables e below (T31.setTop (mkF m 15 #[.val (.ref a1), .val u0, .val u1, .val u2] [(.ref a1)])) _
    refine XS.aloadN X31.here hx rfl (hb hby dx_prog_32_method_1_code_15) rfl ru2 ?_
    show Steps p.tables e below (T31.setTop (mkF m 16 #[.val (.ref a1), .val u0, .val u1, .val u2] [u2, (.ref a1)])) _
    refine st35 _ ?_
    show Steps p.tables e below (T35.setTop (mkF m 19 #[.val (.ref a1), .val u0, .val u1, .val u2] [])) _
    exact X35.returnOut hx Bd.returns (hb hby dx_prog_32_method_1_code_19) hr
  · show Qdfi Z G1 kn a1 u0 u1 u2 h0 n0 _ T35.heap _
    rw [e35]
    exact ⟨rfl, N35, K0_36, f37, f38, f39, Fw35⟩
theorem dx_prog_32_method_4_code_0 : decode prog_32_method_4_code 0 = .ok (.aload_n 0, 1) := by decide +kernel
theorem dx_prog_32_method_4_code_1 : decode prog_32_method_4_code 1 = .ok (.getfield 7, 3) := by decide +kernel
theorem dx_prog_32_method_4_code_4 : decode prog_32_method_4_code 4 = .ok (.areturn, 1) := by decide +kernel
def QG_DependencyFinding_kind (Z : State) (G1 : Int32) (kn : Addr) (a1 : Addr) (u : Value) (h0 : Heap) (n0 : Nat) (v : Option Value) (h : Heap) (L : List Loc) : Prop := v = some u ∧ Fr n0 L ∧ h = h0
theorem ef_prog_32_method_4_code_R (m : MethodId) (x0 : Addr) : entryFrame m #[(.ref x0)] 1 = mkF m 0 #[.val (.ref x0)] [] := by first | (simp [entryFrame, mkF, argsToLocals, Value.category]; done) | rfl
abbrev y5 : MethodName := ⟨"com/example/clauses_to_controls/clausestocontrols/service/DependencyFinding", "kind", "()Lcom/example/clauses_to_controls/clausestocontrols/service/DependencyFinding$Kind;"⟩
set_option maxRecDepth 65536 in
set_option maxHeartbeats 40000000 in
theorem rmG_DependencyFinding_kind (l : Launch) (Z : State) (a0 : Array Value) (G1 : Int32) (kn : Addr) (hG : Glob Z a0 G1 kn) (ws : List Jvm.Cond) (a1 : Addr) (u : Value) (h0 : Heap) (n0 : Nat) (Z0 : n0 ≤ h0.size) (X00 : Old Z n0 h0) (F_kind_a1 : Fld Z h0 a1 "com/example/clauses_to_controls/clausestocontrols/service/DependencyFinding" "kind" "Lcom/example/clauses_to_controls/clausestocontrols/service/DependencyFinding$Kind;" u) (ru : u.isRef = true) :
    MetFree l y5 (head1 (Jvm.Cond.code y5 prog_32_method_4_code 1 (some (.object "com/example/clauses_to_controls/clausestocontrols/service/DependencyFinding$Kind")) :: ws) ({ frames := 0, cells := 0, slots := 0, locals := 0 } : Room)) (fun a U => a = #[(.ref a1)] ∧ Z.Warmed39 U.vm ∧ U.heap = h0) (fun _ _ _ _ _ => True) (fun _ U o U' => ∃ v L, o = .returned v ∧ QG_DependencyFinding_kind Z G1 kn a1 u h0 n0 v U'.heap L ∧ FrameEnd U o U' L ({ frames := 0, cells := 0, slots := 0, locals := 0 } : Room).cells ({ frames := 0, cells := 0, slots := 0, locals := 0 } : Room).slots) := by
  obtain ⟨hw, O_cs, P_cs, O_kn⟩ := id hG
  have W : ∀ (i : Nat) {d : Jvm.Cond}, tables_1[i]? = some d → d.before a0 Z = true := fun i d h => hw d (List.mem_of_getElem? h)
  refine MetFree.of_bodySF (plainFor_of_name pn_com_example_clauses_to_controls_clausestocontrols_service_DependencyFinding) hisR ?_
  intro p e s m args below meth c s₁ Bd hml0 hP hK
  obtain ⟨rfl, hZ, hh⟩ := hP
  have hx := Bd.exec
  have hby := Bd.bytes
  have hml : c.maxLocals = 1 := hml0
  have hown : s.vm.findClass "com/example/clauses_to_controls/clausestocontrols/service/DependencyFinding" = some m.cls := findClass_of_methodNamed Bd.named
  have hnm := (name_of_methodNamed Bd.named Bd.method).1
  have X0 : Stand p l e ({ frames := 0, cells := 0, slots := 0, locals := 0 } : Room) s m #[(.ref a1)] below meth c s₁ [] 0 0 := Stand.of_body Bd
  have e0 : s₁.heap = h0 := by rw [← hh, Bd.state]; rfl
  have N0 := Fr.nil n0
  have pre0 : ∀ t, Steps p.tables e below (s₁.setTop (mkF m 0 #[.val (.ref a1)] [])) t → Steps p.tables e below (s₁.setTop (entryFrame m #[(.ref a1)] 1)) t := fun t kk_ => castTop (ef_prog_32_method_4_code_R m a1) kk_
  obtain ⟨T40, X40, e40, st40⟩ := getF X0 hx hZ hown (host := "") (Or.inl (W 43 rfl)) Via.refl e0 F_kind_a1 (g := (mkF m 1 #[.val (.ref a1)] [(.ref a1)])) rfl rfl (hb hby dx_prog_32_method_4_code_1)
  obtain ⟨fs, hr, hrun, hended, hW, hsame⟩ := X40.leave (v := some u) (fun h => by rw [Bd.returns] at h; cases h)
  refine ⟨_, _, pre0 _ ?_, hrun, hended, _, _, rfl, ?_, ⟨_, rfl⟩, hW, hsame.mono (Nat.le_of_ble_eq_true rfl) (Nat.le_of_ble_eq_true rfl)⟩
  · show Steps p.tables e below (s₁.setTop (mkF m 0 #[.val (.ref a1)] [])) _
    refine XS.aloadN X0.here hx rfl (hb hby dx_prog_32_method_4_code_0) rfl rfl ?_
    show Steps p.tables e below (s₁.setTop (mkF m 1 #[.val (.ref a1)] [(.ref a1)])) _
    refine st40 _ ?_
    show Steps p.tables e below (T40.setTop (mkF m 4 #[.val (.ref a1)] [u])) _
    exact retOut X40 hx Bd.returns (own_nar rfl ru) (Or.inr (Or.inr (Or.inr (Or.inr ⟨rfl, rfl, ru⟩)))) (hb hby dx_prog_32_method_4_code_4) hr
  · show QG_DependencyFinding_kind Z G1 kn a1 u h0 n0 _ T40.heap _
    rw [e40]
    exact ⟨rfl, N0, rfl⟩
theorem dx_prog_32_method_5_code_0 : decode prog_32_method_5_code 0 = .ok (.aload_n 0, 1) := by decide +kernel
theorem dx_prog_32_method_5_code_1 : decode prog_32_method_5_code 1 = .ok (.getfield 13, 3) := by decide +kernel
theorem dx_prog_32_method_5_code_4 : decode prog_32_method_5_code 4 = .ok (.areturn, 1) := by decide +kernel
def QG_DependencyFinding_component (Z : State) (G1 : Int32) (kn : Addr) (a1 : Addr) (u : Value) (h0 : Heap) (n0 : Nat) (v : Option Value) (h : Heap) (L : List Loc) : Prop := v = some u ∧ Fr n0 L ∧ h = h0
theorem ef_prog_32_method_5_code_R (m : MethodId) (x0 : Addr) : entryFrame m #[(.ref x0)] 1 = mkF m 0 #[.val (.ref x0)] [] := by first | (simp [entryFrame, mkF, argsToLocals, Value.category]; done) | rfl
abbrev y6 : MethodName := ⟨"com/example/clauses_to_controls/clausestocontrols/service/DependencyFinding", "component", "()Ljava/lang/String;"⟩
set_option maxRecDepth 65536 in
set_option maxHeartbeats 40000000 in
theorem rmG_DependencyFinding_component (l : Launch) (Z : State) (a0 : Array Value) (G1 : Int32) (kn : Addr) (hG : Glob Z a0 G1 kn) (ws : List Jvm.Cond) (a1 : Addr) (u : Value) (h0 : Heap) (n0 : Nat) (Z0 : n0 ≤ h0.size) (X00 : Old Z n0 h0) (F_component_a1 : Fld Z h0 a1 "com/example/clauses_to_controls/clausestocontrols/service/DependencyFinding" "component" "Ljava/lang/String;" u) (ru : u.isRef = true) :
    MetFree l y6 (head1 (Jvm.Cond.code y6 prog_32_method_5_code 1 (some (.object "java/lang/String")) :: ws) ({ frames := 0, cells := 0, slots := 0, locals := 0 } : Room)) (fun a U => a = #[(.ref a1)] ∧ Z.Warmed39 U.vm ∧ U.heap = h0) (fun _ _ _ _ _ => True) (fun _ U o U' => ∃ v L, o = .returned v ∧ QG_DependencyFinding_component Z G1 kn a1 u h0 n0 v U'.heap L ∧ FrameEnd U o U' L ({ frames := 0, cells := 0, slots := 0, locals := 0 } : Room).cells ({ frames := 0, cells := 0, slots := 0, locals := 0 } : Room).slots) := by
  obtain ⟨hw, O_cs, P_cs, O_kn⟩ := id hG
  have W : ∀ (i : Nat) {d : Jvm.Cond}, tables_1[i]? = some d → d.before a0 Z = true := fun i d h => hw d (List.mem_of_getElem? h)
  refine MetFree.of_bodySF (plainFor_of_name pn_com_example_clauses_to_controls_clausestocontrols_service_DependencyFinding) hisR ?_
  intro p e s m args below meth c s₁ Bd hml0 hP hK
  obtain ⟨rfl, hZ, hh⟩ := hP
  have hx := Bd.exec
  have hby := Bd.bytes
  have hml : c.maxLocals = 1 := hml0
  have hown : s.vm.findClass "com/example/clauses_to_controls/clausestocontrols/service/DependencyFinding" = some m.cls := findClass_of_methodNamed Bd.named
  have hnm := (name_of_methodNamed Bd.named Bd.method).1
  have X0 : Stand p l e ({ frames := 0, cells := 0, slots := 0, locals := 0 } : Room) s m #[(.ref a1)] below meth c s₁ [] 0 0 := Stand.of_body Bd
  have e0 : s₁.heap = h0 := by rw [← hh, Bd.state]; rfl
  have N0 := Fr.nil n0
  have pre0 : ∀ t, Steps p.tables e below (s₁.setTop (mkF m 0 #[.val (.ref a1)] [])) t → Steps p.tables e below (s₁.setTop (entryFrame m #[(.ref a1)] 1)) t := fun t kk_ => castTop (ef_prog_32_method_5_code_R m a1) kk_
  obtain ⟨T41, X41, e41, st41⟩ := getF X0 hx hZ hown (host := "") (Or.inl (W 45 rfl)) Via.refl e0 F_component_a1 (g := (mkF m 1 #[.val (.ref a1)] [(.ref a1)])) rfl rfl (hb hby dx_prog_32_method_5_code_1)
  obtain ⟨fs, hr, hrun, hended, hW, hsame⟩ := X41.leave (v := some u) (fun h => by rw [Bd.returns] at h; cases h)
  refine ⟨_, _, pre0 _ ?_, hrun, hended, _, _, rfl, ?_, ⟨_, rfl⟩, hW, hsame.mono (Nat.le_of_ble_eq_true rfl) (Nat.le_of_ble_eq_true rfl)⟩
  · show Steps p.tables e below (s₁.setTop (mkF m 0 #[.val (.ref a1)] [])) _
    refine XS.aloadN X0.here hx rfl (hb hby dx_prog_32_method_5_code_0) rfl rfl ?_
    show Steps p.tables e below (s₁.setTop (mkF m 1 #[.val (.ref a1)] [(.ref a1)])) _
    refine st41 _ ?_
    show Steps p.tables e below (T41.setTop (mkF m 4 #[.val (.ref a1)] [u])) _
    exact retOut X41 hx Bd.returns (own_nar rfl ru) (Or.inr (Or.inr (Or.inr (Or.inr ⟨rfl, rfl, ru⟩)))) (hb hby dx_prog_32_method_5_code_4) hr
  · show QG_DependencyFinding_component Z G1 kn a1 u h0 n0 _ T41.heap _
    rw [e41]
    exact ⟨rfl, N0, rfl⟩
theorem dx_prog_32_method_3_code_0 : decode prog_32_method_3_code 0 = .ok (.new 8, 3) := by decide +kernel
theorem dx_prog_32_method_3_code_3 : decode prog_32_method_3_code 3 = .ok (.dup, 1) := by decide +kernel
theorem dx_prog_32_method_3_code_4 : decode prog_32_method_3_code 4 = .ok (.getstatic 29, 3) := by decide +kernel
theorem dx_prog_32_method_3_code_7 : decode prog_32_method_3_code 7 = .ok (.aload_n 0, 1) := by decide +kernel
theorem dx_prog_32_method_3_code_8 : decode prog_32_method_3_code 8 = .ok (.aconst_null, 1) := by decide +kernel
theorem dx_prog_32_method_3_code_9 : decode prog_32_method_3_code 9 = .ok (.invokespecial 26, 3) := by decide +kernel
theorem pd__Lcom_example_clauses_to_controls_clausestocontrols_service_DependencyFinding_Kind_Ljava_lang_String_Lcom_example_clauses_to_controls_clausestocontrols_model_DependencyGroup__V : parseMethodDescriptor "(Lcom/example/clauses_to_controls/clausestocontrols/service/DependencyFinding$Kind;Ljava/lang/String;Lcom/example/clauses_to_controls/clausestocontrols/model/DependencyGroup;)V" = some ⟨[(.object "com/example/clauses_to_controls/clausestocontrols/service/DependencyFinding$Kind"), (.object "java/lang/String"), (.object "com/example/clauses_to_controls/clausestocontrols/model/DependencyGroup")], none⟩ := by decide +kernel
theorem dx_prog_32_method_3_code_12 : decode prog_32_method_3_code 12 = .ok (.areturn, 1) := by decide +kernel
def Qnod (Z : State) (G1 : Int32) (kn : Addr) (u : Value) (h0 : Heap) (n0 : Nat) (v : Option Value) (h : Heap) (L : List Loc) : Prop := ∃ b : Addr, v = some (.ref b) ∧ Fr n0 L ∧ Keep h0 h [] ∧ h0.size ≤ b ∧ Exa Z h b "com/example/clauses_to_controls/clausestocontrols/service/DependencyFinding" ∧ Fld Z h b "com/example/clauses_to_controls/clausestocontrols/service/DependencyFinding" "kind" "Lcom/example/clauses_to_controls/clausestocontrols/service/DependencyFinding$Kind;" (.ref kn) ∧ Fld Z h b "com/example/clauses_to_controls/clausestocontrols/service/DependencyFinding" "component" "Ljava/lang/String;" u
theorem ef_prog_32_method_3_code_V (m : MethodId) (x0 : Value) (r0 : x0.isRef = true) : entryFrame m #[x0] 1 = mkF m 0 #[.val x0] [] := by
  simp [entryFrame, mkF, argsToLocals, own_cr, own_ci, own_cj, own_cn, own_cat r0]
abbrev y7 : MethodName := ⟨"com/example/clauses_to_controls/clausestocontrols/service/DependencyFinding", "noData", "(Ljava/lang/String;)Lcom/example/clauses_to_controls/clausestocontrols/service/DependencyFinding;"⟩
set_option maxRecDepth 65536 in
set_option maxHeartbeats 40000000 in
theorem rmnod (l : Launch) (Z : State) (a0 : Array Value) (G1 : Int32) (kn : Addr) (hG : Glob Z a0 G1 kn) (ws : List Jvm.Cond) (u : Value) (h0 : Heap) (n0 : Nat) (Z0 : n0 ≤ h0.size) (X00 : Old Z n0 h0) (ru : u.isRef = true) :
    MetFree l y7 (head1 (Jvm.Cond.code y7 prog_32_method_3_code 1 (some (.object "com/example/clauses_to_controls/clausestocontrols/service/DependencyFinding")) :: ws) ({ frames := 2, cells := 1, slots := 3, locals := 28 } : Room)) (fun a U => a = #[u] ∧ Z.Warmed39 U.vm ∧ U.heap = h0) (fun _ _ _ _ _ => True) (fun _ U o U' => ∃ v L, o = .returned v ∧ Qnod Z G1 kn u h0 n0 v U'.heap L ∧ FrameEnd U o U' L ({ frames := 2, cells := 1, slots := 3, locals := 28 } : Room).cells ({ frames := 2, cells := 1, slots := 3, locals := 28 } : Room).slots) := by
  obtain ⟨hw, O_cs, P_cs, O_kn⟩ := id hG
  have W : ∀ (i : Nat) {d : Jvm.Cond}, tables_1[i]? = some d → d.before a0 Z = true := fun i d h => hw d (List.mem_of_getElem? h)
  refine MetFree.of_bodySF (plainFor_of_name pn_com_example_clauses_to_controls_clausestocontrols_service_DependencyFinding) hisR ?_
  intro p e s m args below meth c s₁ Bd hml0 hP hK
  obtain ⟨rfl, hZ, hh⟩ := hP
  have hx := Bd.exec
  have hby := Bd.bytes
  have hml : c.maxLocals = 1 := hml0
  have hown : s.vm.findClass "com/example/clauses_to_controls/clausestocontrols/service/DependencyFinding" = some m.cls := findClass_of_methodNamed Bd.named
  have hnm := (name_of_methodNamed Bd.named Bd.method).1
  have X0 : Stand p l e ({ frames := 2, cells := 1, slots := 3, locals := 28 } : Room) s m #[u] below meth c s₁ [] 0 0 := Stand.of_body Bd
  have e0 : s₁.heap = h0 := by rw [← hh, Bd.state]; rfl
  have N0 := Fr.nil n0
  have pre0 : ∀ t, Steps p.tables e below (s₁.setTop (mkF m 0 #[.val u] [])) t → Steps p.tables e below (s₁.setTop (entryFrame m #[u] 1)) t := fun t kk_ => castTop (ef_prog_32_method_3_code_V m u ru) kk_
  obtain ⟨T42, h42, X42, e42, E42, A42, D42, -, st42⟩ := newO X0 hx hZ hown (W 34 rfl) (W 35 rfl) (W 32 rfl) e0 (g := (mkF m 0 #[.val u] [])) rfl (hb hby dx_prog_32_method_3_code_0) (by decide) (by decide)
  obtain ⟨b42, g42⟩ : ∃ z, z = h0.size := ⟨_, rfl⟩
  rw [← g42] at A42 D42 st42
  have Z43 : n0 ≤ h42.size := Nat.le_trans Z0 E42.1
  have K0_43 : Keep h0 h42 [] := (Keep.refl h0 []).ext E42
  have O43 : Old Z n0 h42 := X00.ext E42
  have lo_b42 : h0.size ≤ b42 := Nat.le_of_eq g42.symm
  have g_b42 : n0 ≤ b42 := Nat.le_trans Z0 lo_b42
  have l0_b42 : h0.size ≤ b42 := Nat.le_trans (Keep.refl h0 []).1 lo_b42
  have F_kind_b42 : Fld Z h42 b42 "com/example/clauses_to_controls/clausestocontrols/service/DependencyFinding" "kind" "Lcom/example/clauses_to_controls/clausestocontrols/service/DependencyFinding$Kind;" .null := D42 (Or.inr (W 44 rfl)) (ty := (.object "com/example/clauses_to_controls/clausestocontrols/service/DependencyFinding$Kind")) (by decide)
  have F_component_b42 : Fld Z h42 b42 "com/example/clauses_to_controls/clausestocontrols/service/DependencyFinding" "component" "Ljava/lang/String;" .null := D42 (Or.inr (W 46 rfl)) (ty := (.object "java/lang/String")) (by decide)
  have F_group_b42 : Fld Z h42 b42 "com/example/clauses_to_controls/clausestocontrols/service/DependencyFinding" "group" "Lcom/example/clauses_to_controls/clausestocontrols/model/DependencyGroup;" .null := D42 (Or.inr (W 48 rfl)) (ty := (.object "com/example/clauses_to_controls/clausestocontrols/model/DependencyGroup")) (by decide)
  obtain ⟨T44, X44, e44, st44⟩ := getS2 X42 hx hZ hown (host := "") (Or.inl (W 36 rfl)) Via.refl e42 (O_kn.ext O43.2) (g := (mkF m 4 #[.val u] [(.ref b42), (.ref b42)])) rfl (hb hby dx_prog_32_method_3_code_4)
  -- pc 9: com/example/clauses_to_controls/clausestocontrols/service/DependencyFinding.<init>
  obtain ⟨_, _, ⟨T45, L45, k45, n45⟩, -, X45, ⟨Lc45, hQ45, l45, y45, z45⟩, st45⟩ := X44.specialBack hx (y := y4) rfl hown (mvT hZ (W 39 rfl)) (mvT hZ (W 40 rfl)) (mvT hZ (W 41 rfl)) (by decide) (backOf (W := 1) (rmdfi l Z a0 G1 kn hG [] b42 (.ref kn) u .null h42 n0 Z43 O43 A42 g_b42 F_kind_b42 F_component_b42 F_group_b42 rfl ru rfl) hZ (W 41 rfl) (W 32 rfl) (by decide) (by decide)) (g := (mkF m 9 #[.val u] [.null, u, (.ref kn), (.ref b42), (.ref b42)])) rfl (by rw [hml]; rfl) (Steps.refl _) (a := b42) (argsL := [(.ref kn), u, .null]) (rest := [(.ref b42)]) (lenOf pd__Lcom_example_clauses_to_controls_clausestocontrols_service_DependencyFinding_Kind_Ljava_lang_String_Lcom_example_clauses_to_controls_clausestocontrols_model_DependencyGroup__V rfl) rfl (by show 2 * 0 + _ ≤ _; exact Nat.le_of_eq rfl) (hb hby dx_prog_32_method_3_code_9) (fun _ _ => ⟨rfl, e44, (by decide : 1 + 0 ≤ _), (by decide : 3 + 0 ≤ _)⟩)
  dsimp only [Pt.U, Pt.locs, Pt.cells, Pt.slots] at X45 l45 y45 z45 st45 hQ45
  subst l45 y45 z45
  obtain ⟨rfl, N45q, K45, f45_0, f45_1, f45_2, f45_3⟩ := hQ45
  have N45 := Fr.app N0 N45q
  have Z46 : n0 ≤ T45.heap.size := Nat.le_trans Z43 K45.1
  have K0_46 : Keep h0 T45.heap [] := K0_43.trans K45 (allS (Or.inr l0_b42) all0)
  have O46 : Old Z n0 T45.heap := O43.keep K45 (allS g_b42 all0)
  obtain ⟨fs, hr, hrun, hended, hW, hsame⟩ := X45.leave (v := some (.ref b42)) (fun h => by rw [Bd.returns] at h; cases h)
  refine ⟨_, _, pre0 _ ?_, hrun, hended, _, _, rfl, ?_, ⟨_, rfl⟩, hW, hsame.mono (Nat.le_of_ble_eq_true rfl) (Nat.le_of_ble_eq_true rfl)⟩
  · show Steps p.tables e below (s₁.setTop (mkF m 0 #[.val u] [])) _
    refine st42 _ ?_
    show Steps p.tables e below (T42.setTop (mkF m 3 #[.val u] [(.ref b42)])) _
    refine XS.dup X42.here hx rfl (hb hby dx_prog_32_method_3_code_3) rfl rfl ?_
    show Steps p.tables e below (T42.setTop (mkF m 4 #[.val u] [(.ref b42), (.ref b42)])) _
    refine st44 _ ?_
    show Steps p.tables e below (T44.setTop (mkF m 7 #[.val u] [(.ref kn), (.ref b42), (.ref b42)])) _
    refine XS.aloadN X44.here hx rfl (hb hby dx_prog_32_method_3_code_7) rfl ru ?_
    show Steps p.tables e below (T44.setTop (mkF m 8 #[.val u] [u, (.ref kn), (.ref b42), (.ref b42)])) _
    refine XS.aconstNull X44.here hx rfl (hb hby dx_prog_32_method_3_code_8) ?_
    show Steps p.tables e below (T44.setTop (mkF m 9 #[.val u] [.null, u, (.ref kn), (.ref b42), (.ref b42)])) _
    refine st45.trans ?_
    show Steps p.tables e below (T45.setTop (mkF m 12 #[.val u] [(.ref b42)])) _
    exact retOut X45 hx Bd.returns rfl (Or.inr (Or.inr (Or.inr (Or.inr ⟨rfl, rfl, rfl⟩)))) (hb hby dx_prog_32_method_3_code_12) hr
  · show Qnod Z G1 kn u h0 n0 _ T45.heap _
    exact ⟨b42, rfl, N45, K0_46, l0_b42, f45_0, f45_1, f45_2⟩
theorem pd__Ljava_lang_String__Lcom_example_clauses_to_controls_clausestocontrols_service_DependencyFinding_ : parseMethodDescriptor "(Ljava/lang/String;)Lcom/example/clauses_to_controls/clausestocontrols/service/DependencyFinding;" = some ⟨[(.object "java/lang/String")], some (.object "com/example/clauses_to_controls/clausestocontrols/service/DependencyFinding")⟩ := by decide +kernel
theorem pd___Lcom_example_clauses_to_controls_clausestocontrols_service_DependencyFinding_Kind_ : parseMethodDescriptor "()Lcom/example/clauses_to_controls/clausestocontrols/service/DependencyFinding$Kind;" = some ⟨[], some (.object "com/example/clauses_to_controls/clausestocontrols/service/DependencyFinding$Kind")⟩ := by decide +kernel
theorem pd___Ljava_lang_String_ : parseMethodDescriptor "()Ljava/lang/String;" = some ⟨[], some (.object "java/lang/String")⟩ := by decide +kernel
theorem pd__C_Ljava_lang_String_ : parseMethodDescriptor "(C)Ljava/lang/String;" = some ⟨[.char], some (.object "java/lang/String")⟩ := by decide +kernel
theorem pd___C_V : parseMethodDescriptor "([C)V" = some ⟨[(.array .char)], none⟩ := by decide +kernel
abbrev y8 : MethodName := ⟨"java/lang/String", "<init>", "([C)V"⟩
def Q0 (Z : State) (G1 : Int32) (kn : Addr) (p0 : Int32) (p1 : Int32) (p2 : Int32) (h0 : Heap) (n0 : Nat) (v : Option Value) (h : Heap) (L : List Loc) : Prop := v = some (.int (1 : Int32)) ∧ Fr n0 L ∧ Keep h0 h []
theorem ef_code_III (m : MethodId) (x0 : Int32) (x1 : Int32) (x2 : Int32) : entryFrame m #[(.int x0), (.int x1), (.int x2)] maxLocals = mkF m 0 #[.val (.int x0), .val (.int x1), .val (.int x2), .unset, .unset, .unset, .unset] [] := by first | (simp [entryFrame, mkF, argsToLocals, Value.category, maxLocals]; done) | rfl
theorem pn_com_example_clauses_to_controls_clausestocontrols_service_DependencyFindingNoDataPinLaw : plainName "com/example/clauses_to_controls/clausestocontrols/service/DependencyFindingNoDataPinLaw" = true := by first | (simp [plainName, overriddenIn]; done) | decide +kernel
set_option maxRecDepth 65536 in
set_option maxHeartbeats 40000000 in
theorem rm0_0 (l : Launch) (Z : State) (a0 : Array Value) (G1 : Int32) (kn : Addr) (hG : Glob Z a0 G1 kn) (ws : List Jvm.Cond) (p0 : Int32) (p1 : Int32) (p2 : Int32) (h0 : Heap) (n0 : Nat) (Z0 : n0 ≤ h0.size) (X00 : Old Z n0 h0) (hc29 : (p2 &&& (3 : Int32)) = (0 : Int32)) :
    MetFree l x (head1 (Jvm.Cond.code x code maxLocals ret :: ws) room_1) (fun a U => a = #[(.int p0), (.int p1), (.int p2)] ∧ Z.Warmed39 U.vm ∧ U.heap = h0 ∧ CHv Z own_EL U.vm h0) (fun _ _ _ _ _ => True) (fun _ U o U' => ∃ v L, o = .returned v ∧ Q0 Z G1 kn p0 p1 p2 h0 n0 v U'.heap L ∧ CHr Z own_EL U.vm U.heap U'.vm U'.heap ∧ ReturnedEndW U o U' L room_1.cells room_1.slots) := by
  obtain ⟨hw, O_cs, P_cs, O_kn⟩ := id hG
  have W : ∀ (i : Nat) {d : Jvm.Cond}, tables_1[i]? = some d → d.before a0 Z = true := fun i d h => hw d (List.mem_of_getElem? h)
  refine MetFree.of_bodySF (plainFor_of_name pn_com_example_clauses_to_controls_clausestocontrols_service_DependencyFindingNoDataPinLaw) hisR ?_
  intro p e s m args below meth c s₁ Bd hml0 hP hK
  obtain ⟨rfl, hZ, hh, hCH⟩ := hP
  have hx := Bd.exec
  have hby := Bd.bytes
  have hml : c.maxLocals = 7 := hml0
  have hown : s.vm.findClass "com/example/clauses_to_controls/clausestocontrols/service/DependencyFindingNoDataPinLaw" = some m.cls := findClass_of_methodNamed Bd.named
  have hnm := (name_of_methodNamed Bd.named Bd.method).1
  have X0 : Stand p l e room_1 (s.setVm s.vm) m #[(.int p0), (.int p1), (.int p2)] below meth c s₁ [] 0 0 := Stand.of_body Bd
  have e0 : s₁.heap = h0 := by rw [← hh, Bd.state]; rfl
  have hS0 : s.Since s.vm h0.size := (State.WarmedH.refl s).since _
  have hk0 : h0.size ≤ h0.size := Nat.le_refl _
  have R0 : CHr Z own_EL s.vm h0 s.vm h0 := CHr.refl hCH
  have hEL := own_ew hw
  have N0 := Fr.nil n0
  have pre0 : ∀ t, Steps p.tables e below (s₁.setTop (mkF m 0 #[.val (.int p0), .val (.int p1), .val (.int p2), .unset, .unset, .unset, .unset] [])) t → Steps p.tables e below (s₁.setTop (entryFrame m #[(.int p0), (.int p1), (.int p2)] maxLocals)) t := fun t kk_ => castTop (ef_code_III m p0 p1 p2) kk_
  obtain ⟨T47, h47, k47, X47, e47, E47, A47, st47⟩ := newP X0 hx hZ (W 0 rfl) e0 (g := (mkF m 1 #[.val (.int p0), .val (.int p1), .val (.int p2), .unset, .unset, .unset, .unset] [(.int (2 : Int32))])) rfl (hb hby at_1) rfl (by decide) (cap := 2) (by decide) (by decide) (by decide) (by decide)
  obtain ⟨b47, g47⟩ : ∃ z, z = h0.size := ⟨_, rfl⟩
  rw [← g47] at A47 st47
  have Z48 : n0 ≤ h47.size := Nat.le_trans Z0 E47.1
  have K0_48 : Keep h0 h47 [] := (Keep.refl h0 []).ext E47
  have O48 : Old Z n0 h47 := X00.ext E47
  have R48 : CHr Z own_EL s.vm h0 s.vm h47 := R0.trans (CHr.ext E47 R0.1)
  have hk48 : h0.size ≤ h47.size := Nat.le_trans hk0 E47.1
  have lo_b47 : h0.size ≤ b47 := Nat.le_of_eq g47.symm
  have g_b47 : n0 ≤ b47 := Nat.le_trans Z0 lo_b47
  have l0_b47 : h0.size ≤ b47 := Nat.le_trans (Keep.refl h0 []).1 lo_b47
  have V_b47 : Arv Z h47 b47 k47 .char (2 : Int32) [(.int (0 : Int32)), (.int (0 : Int32))] (.int (0 : Int32)) := (Arv.new A47 (by decide)).pad (pad_rep [] (.int (0 : Int32)) 2)
  obtain ⟨clq49, Arq49, qaq49, Sq49, Nq49, Hq49, Gq49⟩ := id V_b47
  have hinq49 : ¬ ((0 : Int32) < 0 ∨ clq49.slots.size ≤ ((0 : Int32)).toNatClampNeg) := inb_of Sq49 ⟨by decide, by decide⟩
  obtain ⟨T50, h50, X50, e50, W50, st50⟩ := stC X47 hx hZ e47 Arq49 (j := (0 : Int32)) hinq49 (g := (mkF m 12 #[.val (.int p0), .val (.int p1), .val (.int p2), .val (.ref b47), .unset, .unset, .unset] [(.int ((p0 &&& (255 : Int32)).toUInt32.toUInt16.toUInt32.toInt32)), (.int (0 : Int32)), (.ref b47)])) rfl rfl (hb hby at_12)
  have V50 : Arv Z h50 b47 k47 .char (2 : Int32) [(.int (nar .char ((p0 &&& (255 : Int32)).toUInt32.toUInt16.toUInt32.toInt32))), (.int (0 : Int32))] (.int (0 : Int32)) := Arv.set Arq49 qaq49 Sq49 Nq49 Hq49 Gq49 (fits_nar_char _) W50 0 rfl (Nat.le_of_ble_eq_true rfl)
  have Z51 : n0 ≤ h50.size := Nat.le_trans Z48 (Keep.of_wr W50).1
  have K0_51 : Keep h0 h50 [] := K0_48.wr W50 (Or.inr l0_b47)
  have O51 : Old Z n0 h50 := O48.wr W50 g_b47
  have R51 : CHr Z own_EL s.vm h0 s.vm h50 := R48.trans (CHr.wr W50 (Safe.arv hZ.alike V_b47 (by decide)) R48.1)
  have hk51 : h0.size ≤ h50.size := Nat.le_trans hk48 (Keep.of_wr W50).1
  have N50 := Fr.snoc X50 N0 g_b47
  obtain ⟨clq52, Arq52, qaq52, Sq52, Nq52, Hq52, Gq52⟩ := id V50
  have hinq52 : ¬ ((1 : Int32) < 0 ∨ clq52.slots.size ≤ ((1 : Int32)).toNatClampNeg) := inb_of Sq52 ⟨by decide, by decide⟩
  obtain ⟨T53, h53, X53, e53, W53, st53⟩ := stC X50 hx hZ e50 Arq52 (j := (1 : Int32)) hinq52 (g := (mkF m 21 #[.val (.int p0), .val (.int p1), .val (.int p2), .val (.ref b47), .unset, .unset, .unset] [(.int ((p1 &&& (255 : Int32)).toUInt32.toUInt16.toUInt32.toInt32)), (.int (1 : Int32)), (.ref b47)])) rfl rfl (hb hby at_21)
  have V53 : Arv Z h53 b47 k47 .char (2 : Int32) [(.int (nar .char ((p0 &&& (255 : Int32)).toUInt32.toUInt16.toUInt32.toInt32))), (.int (nar .char ((p1 &&& (255 : Int32)).toUInt32.toUInt16.toUInt32.toInt32)))] (.int (0 : Int32)) := Arv.set Arq52 qaq52 Sq52 Nq52 Hq52 Gq52 (fits_nar_char _) W53 1 rfl (Nat.le_of_ble_eq_true rfl)
  have Z54 : n0 ≤ h53.size := Nat.le_trans Z51 (Keep.of_wr W53).1
  have K0_54 : Keep h0 h53 [] := K0_51.wr W53 (Or.inr l0_b47)
  have O54 : Old Z n0 h53 := O51.wr W53 g_b47
  have R54 : CHr Z own_EL s.vm h0 s.vm h53 := R51.trans (CHr.wr W53 (Safe.arv hZ.alike V50 (by decide)) R51.1)
  have hk54 : h0.size ≤ h53.size := Nat.le_trans hk51 (Keep.of_wr W53).1
  have N53 := Fr.snoc X53 N50 g_b47
  -- pc 80: com/example/clauses_to_controls/clausestocontrols/service/DependencyFinding.noData
  obtain ⟨_, _, ⟨T55, L55, k55, n55⟩, -, X55, ⟨Lc55, hQ55, l55, y55, z55⟩, st55⟩ := Jvm.LawKit.callS X53 hx (y := y7) hown (mvT hZ (W 30 rfl)) (mvT hZ (W 31 rfl)) (mvT hZ (W 32 rfl)) (mvT hZ (W 33 rfl)) (by decide) (backOf (W := 0) (rmnod l Z a0 G1 kn hG [] .null h53 n0 Z54 O54 rfl) hZ (W 33 rfl) (W 32 rfl) (by decide) (by decide)) (g := (mkF m 80 #[.val (.int p0), .val (.int p1), .val (.int p2), .val (.ref b47), .val (.int (p2 &&& (3 : Int32))), .val .null, .unset] [.null])) rfl (by rw [hml]; rfl) (argsL := [.null]) (rest := []) (lenOf pd__Ljava_lang_String__Lcom_example_clauses_to_controls_clausestocontrols_service_DependencyFinding_ rfl) rfl (by show 2 * 0 + _ ≤ _; exact Nat.le_of_eq rfl) (hb hby at_80) (fun _ _ => ⟨rfl, e53, (by decide : 1 + 1 ≤ _), (by decide : 2 + 3 ≤ _)⟩)
  dsimp only [Pt.U, Pt.locs, Pt.cells, Pt.slots] at X55 l55 y55 z55 st55 hQ55
  subst l55 y55 z55
  obtain ⟨b_55, rfl, N55q, K55, f55_0, f55_1, f55_2, f55_3⟩ := hQ55
  have N55 := Fr.app N53 N55q
  have Z56 : n0 ≤ T55.heap.size := Nat.le_trans Z54 K55.1
  have K0_56 : Keep h0 T55.heap [] := K0_54.trans K55 all0
  have O56 : Old Z n0 T55.heap := O54.keep K55 all0
  have R56 : CHr Z own_EL s.vm h0 s.vm T55.heap := R54.trans (CHr.keep K55 sf0 R54.1)
  have hk56 : h0.size ≤ T55.heap.size := Nat.le_trans hk54 K55.1
  have lo_b_55 : h53.size ≤ b_55 := f55_0
  have g_b_55 : n0 ≤ b_55 := Nat.le_trans Z54 lo_b_55
  have l0_b_55 : h0.size ≤ b_55 := Nat.le_trans K0_54.1 lo_b_55
  obtain ⟨cq57, kq57, q57a, q57b, q57c⟩ := isOf hZ rfl f55_1
  -- pc 87: com/example/clauses_to_controls/clausestocontrols/service/DependencyFinding.kind
  obtain ⟨_, _, ⟨T57, L57, k57, n57⟩, -, X57, ⟨Lc57, hQ57, l57, y57, z57⟩, st57⟩ := X55.virtualBack hx (y := y5) (z := y5) hown (mvT hZ (W 49 rfl)) (mvT hZ (W 50 rfl)) (notFace_of_selects (args := #[]) (mvT hZ (W 52 rfl))) (mvT hZ (W 52 rfl)) (mvT hZ (W 51 rfl)) (by decide) (backOf (W := 0) (rmG_DependencyFinding_kind l Z a0 G1 kn hG [] b_55 (.ref kn) T55.heap n0 Z56 O56 f55_2 rfl) hZ (W 53 rfl) (W 32 rfl) (by decide) (by decide)) q57a q57c (g := (mkF m 87 #[.val (.int p0), .val (.int p1), .val (.int p2), .val (.ref b47), .val (.int (p2 &&& (3 : Int32))), .val .null, .val (.ref b_55)] [(.ref b_55)])) rfl (by rw [hml]; rfl) (Steps.refl _) (argsL := []) (rest := []) (lenOf pd___Lcom_example_clauses_to_controls_clausestocontrols_service_DependencyFinding_Kind_ rfl) rfl (by show 2 * 0 + _ ≤ _; exact Nat.le_of_eq rfl) (hb hby at_87) (fun _ _ => ⟨rfl, rfl, (by decide : 2 + 0 ≤ _), (by decide : 5 + 0 ≤ _)⟩)
  dsimp only [Pt.U, Pt.locs, Pt.cells, Pt.slots] at X57 l57 y57 z57 st57 hQ57
  subst l57 y57 z57
  obtain ⟨rfl, N57q, eq57⟩ := hQ57
  have N57 := Fr.app N55 N57q
  obtain ⟨T58, X58, e58, st58⟩ := getS2 X57 hx hZ hown (host := "") (Or.inl (W 54 rfl)) Via.refl eq57 (O_kn.ext O56.2) (g := (mkF m 90 #[.val (.int p0), .val (.int p1), .val (.int p2), .val (.ref b47), .val (.int (p2 &&& (3 : Int32))), .val .null, .val (.ref b_55)] [(.ref kn)])) rfl (hb hby at_90)
  obtain ⟨cq59, kq59, q59a, q59b, q59c⟩ := isOf hZ e58 f55_1
  -- pc 98: com/example/clauses_to_controls/clausestocontrols/service/DependencyFinding.component
  obtain ⟨_, _, ⟨T59, L59, k59, n59⟩, -, X59, ⟨Lc59, hQ59, l59, y59, z59⟩, st59⟩ := X58.virtualBack hx (y := y6) (z := y6) hown (mvT hZ (W 55 rfl)) (mvT hZ (W 56 rfl)) (notFace_of_selects (args := #[]) (mvT hZ (W 58 rfl))) (mvT hZ (W 58 rfl)) (mvT hZ (W 57 rfl)) (by decide) (backOf (W := 0) (rmG_DependencyFinding_component l Z a0 G1 kn hG [] b_55 .null T55.heap n0 Z56 O56 f55_3 rfl) hZ (W 59 rfl) (W 32 rfl) (by decide) (by decide)) q59a q59c (g := (mkF m 98 #[.val (.int p0), .val (.int p1), .val (.int p2), .val (.ref b47), .val (.int (p2 &&& (3 : Int32))), .val .null, .val (.ref b_55)] [(.ref b_55)])) rfl (by rw [hml]; rfl) (Steps.refl _) (argsL := []) (rest := []) (lenOf pd___Ljava_lang_String_ rfl) rfl (by show 2 * 0 + _ ≤ _; exact Nat.le_of_eq rfl) (hb hby at_98) (fun _ _ => ⟨rfl, e58, (by decide : 2 + 0 ≤ _), (by decide : 5 + 0 ≤ _)⟩)
  dsimp only [Pt.U, Pt.locs, Pt.cells, Pt.slots] at X59 l59 y59 z59 st59 hQ59
  subst l59 y59 z59
  obtain ⟨rfl, N59q, eq59⟩ := hQ59
  have N59 := Fr.app N57 N59q
  obtain ⟨fs, hr, hrun, hended, hend⟩ := Jvm.Stand.leaveW (v := some (.int (1 : Int32))) X59 hS0 (by rw [eq59]; exact hk56) (fun h => by rw [Bd.returns] at h; cases h)
  have hFin := R56.trans (CHv.at X59 hZ hEL R56.1)
  refine ⟨_, _, pre0 _ ?_, hrun, hended, _, _, rfl, ?_, ?_, own_mono hend (Nat.le_of_ble_eq_true rfl) (Nat.le_of_ble_eq_true rfl)⟩
  · show Steps p.tables e below (s₁.setTop (mkF m 0 #[.val (.int p0), .val (.int p1), .val (.int p2), .unset, .unset, .unset, .unset] [])) _
    refine XS.iconst X0.here hx rfl (hb hby at_0) ?_
    show Steps p.tables e below (s₁.setTop (mkF m 1 #[.val (.int p0), .val (.int p1), .val (.int p2), .unset, .unset, .unset, .unset] [(.int (2 : Int32))])) _
    refine st47 _ ?_
    show Steps p.tables e below (T47.setTop (mkF m 3 #[.val (.int p0), .val (.int p1), .val (.int p2), .unset, .unset, .unset, .unset] [(.ref b47)])) _
    refine XS.astoreN X47.here hx rfl (hb hby at_3) rfl rfl (l' := #[.val (.int p0), .val (.int p1), .val (.int p2), .val (.ref b47), .unset, .unset, .unset]) rfl ?_
    show Steps p.tables e below (T47.setTop (mkF m 4 #[.val (.int p0), .val (.int p1), .val (.int p2), .val (.ref b47), .unset, .unset, .unset] [])) _
    refine XS.aloadN X47.here hx rfl (hb hby at_4) rfl rfl ?_
    show Steps p.tables e below (T47.setTop (mkF m 5 #[.val (.int p0), .val (.int p1), .val (.int p2), .val (.ref b47), .unset, .unset, .unset] [(.ref b47)])) _
    refine XS.iconst X47.here hx rfl (hb hby at_5) ?_
    show Steps p.tables e below (T47.setTop (mkF m 6 #[.val (.int p0), .val (.int p1), .val (.int p2), .val (.ref b47), .unset, .unset, .unset] [(.int (0 : Int32)), (.ref b47)])) _
    refine XS.iloadN X47.here hx rfl (hb hby at_6) rfl ?_
    show Steps p.tables e below (T47.setTop (mkF m 7 #[.val (.int p0), .val (.int p1), .val (.int p2), .val (.ref b47), .unset, .unset, .unset] [(.int p0), (.int (0 : Int32)), (.ref b47)])) _
    refine XS.sipush X47.here hx rfl (hb hby at_7) ?_
    show Steps p.tables e below (T47.setTop (mkF m 10 #[.val (.int p0), .val (.int p1), .val (.int p2), .val (.ref b47), .unset, .unset, .unset] [(.int (255 : Int32)), (.int p0), (.int (0 : Int32)), (.ref b47)])) _
    refine XS.iand X47.here hx rfl (hb hby at_10) rfl ?_
    show Steps p.tables e below (T47.setTop (mkF m 11 #[.val (.int p0), .val (.int p1), .val (.int p2), .val (.ref b47), .unset, .unset, .unset] [(.int (p0 &&& (255 : Int32))), (.int (0 : Int32)), (.ref b47)])) _
    refine XS.i2c X47.here hx rfl (hb hby at_11) rfl ?_
    show Steps p.tables e below (T47.setTop (mkF m 12 #[.val (.int p0), .val (.int p1), .val (.int p2), .val (.ref b47), .unset, .unset, .unset] [(.int ((p0 &&& (255 : Int32)).toUInt32.toUInt16.toUInt32.toInt32)), (.int (0 : Int32)), (.ref b47)])) _
    refine st50 _ ?_
    show Steps p.tables e below (T50.setTop (mkF m 13 #[.val (.int p0), .val (.int p1), .val (.int p2), .val (.ref b47), .unset, .unset, .unset] [])) _
    refine XS.aloadN X50.here hx rfl (hb hby at_13) rfl rfl ?_
    show Steps p.tables e below (T50.setTop (mkF m 14 #[.val (.int p0), .val (.int p1), .val (.int p2), .val (.ref b47), .unset, .unset, .unset] [(.ref b47)])) _
    refine XS.iconst X50.here hx rfl (hb hby at_14) ?_
    show Steps p.tables e below (T50.setTop (mkF m 15 #[.val (.int p0), .val (.int p1), .val (.int p2), .val (.ref b47), .unset, .unset, .unset] [(.int (1 : Int32)), (.ref b47)])) _
    refine XS.iloadN X50.here hx rfl (hb hby at_15) rfl ?_
    show Steps p.tables e below (T50.setTop (mkF m 16 #[.val (.int p0), .val (.int p1), .val (.int p2), .val (.ref b47), .unset, .unset, .unset] [(.int p1), (.int (1 : Int32)), (.ref b47)])) _
    refine XS.sipush X50.here hx rfl (hb hby at_16) ?_
    show Steps p.tables e below (T50.setTop (mkF m 19 #[.val (.int p0), .val (.int p1), .val (.int p2), .val (.ref b47), .unset, .unset, .unset] [(.int (255 : Int32)), (.int p1), (.int (1 : Int32)), (.ref b47)])) _
    refine XS.iand X50.here hx rfl (hb hby at_19) rfl ?_
    show Steps p.tables e below (T50.setTop (mkF m 20 #[.val (.int p0), .val (.int p1), .val (.int p2), .val (.ref b47), .unset, .unset, .unset] [(.int (p1 &&& (255 : Int32))), (.int (1 : Int32)), (.ref b47)])) _
    refine XS.i2c X50.here hx rfl (hb hby at_20) rfl ?_
    show Steps p.tables e below (T50.setTop (mkF m 21 #[.val (.int p0), .val (.int p1), .val (.int p2), .val (.ref b47), .unset, .unset, .unset] [(.int ((p1 &&& (255 : Int32)).toUInt32.toUInt16.toUInt32.toInt32)), (.int (1 : Int32)), (.ref b47)])) _
    refine st53 _ ?_
    show Steps p.tables e below (T53.setTop (mkF m 22 #[.val (.int p0), .val (.int p1), .val (.int p2), .val (.ref b47), .unset, .unset, .unset] [])) _
    refine XS.iloadN X53.here hx rfl (hb hby at_22) rfl ?_
    show Steps p.tables e below (T53.setTop (mkF m 23 #[.val (.int p0), .val (.int p1), .val (.int p2), .val (.ref b47), .unset, .unset, .unset] [(.int p2)])) _
    refine XS.iconst X53.here hx rfl (hb hby at_23) ?_
    show Steps p.tables e below (T53.setTop (mkF m 24 #[.val (.int p0), .val (.int p1), .val (.int p2), .val (.ref b47), .unset, .unset, .unset] [(.int (3 : Int32)), (.int p2)])) _
    refine XS.iand X53.here hx rfl (hb hby at_24) rfl ?_
    show Steps p.tables e below (T53.setTop (mkF m 25 #[.val (.int p0), .val (.int p1), .val (.int p2), .val (.ref b47), .unset, .unset, .unset] [(.int (p2 &&& (3 : Int32)))])) _
    refine XS.istore X53.here hx rfl (hb hby at_25) rfl (l' := #[.val (.int p0), .val (.int p1), .val (.int p2), .val (.ref b47), .val (.int (p2 &&& (3 : Int32))), .unset, .unset]) rfl ?_
    show Steps p.tables e below (T53.setTop (mkF m 27 #[.val (.int p0), .val (.int p1), .val (.int p2), .val (.ref b47), .val (.int (p2 &&& (3 : Int32))), .unset, .unset] [])) _
    refine XS.iload X53.here hx rfl (hb hby at_27) rfl ?_
    show Steps p.tables e below (T53.setTop (mkF m 29 #[.val (.int p0), .val (.int p1), .val (.int p2), .val (.ref b47), .val (.int (p2 &&& (3 : Int32))), .unset, .unset] [(.int (p2 &&& (3 : Int32)))])) _
    refine XS.ifNo X53.here hx rfl (hb hby at_29) rfl ((if0 _ _).trans (teq (hc29 : (p2 &&& (3 : Int32)) = (0 : Int32))).2) ?_
    show Steps p.tables e below (T53.setTop (mkF m 32 #[.val (.int p0), .val (.int p1), .val (.int p2), .val (.ref b47), .val (.int (p2 &&& (3 : Int32))), .unset, .unset] [])) _
    refine XS.aconstNull X53.here hx rfl (hb hby at_32) ?_
    show Steps p.tables e below (T53.setTop (mkF m 33 #[.val (.int p0), .val (.int p1), .val (.int p2), .val (.ref b47), .val (.int (p2 &&& (3 : Int32))), .unset, .unset] [.null])) _
    refine XS.astore X53.here hx rfl (hb hby at_33) rfl rfl (l' := #[.val (.int p0), .val (.int p1), .val (.int p2), .val (.ref b47), .val (.int (p2 &&& (3 : Int32))), .val .null, .unset]) rfl ?_
    show Steps p.tables e below (T53.setTop (mkF m 35 #[.val (.int p0), .val (.int p1), .val (.int p2), .val (.ref b47), .val (.int (p2 &&& (3 : Int32))), .val .null, .unset] [])) _
    refine XS.goto X53.here hx rfl (pc0 := 35) (pc' := 78) rfl (hb hby at_35) (by decide) (by decide) ?_
    show Steps p.tables e below (T53.setTop (mkF m 78 #[.val (.int p0), .val (.int p1), .val (.int p2), .val (.ref b47), .val (.int (p2 &&& (3 : Int32))), .val .null, .unset] [])) _
    refine XS.aload X53.here hx rfl (hb hby at_78) rfl rfl ?_
    show Steps p.tables e below (T53.setTop (mkF m 80 #[.val (.int p0), .val (.int p1), .val (.int p2), .val (.ref b47), .val (.int (p2 &&& (3 : Int32))), .val .null, .unset] [.null])) _
    refine st55 _ ?_
    show Steps p.tables e below (T55.setTop (mkF m 83 #[.val (.int p0), .val (.int p1), .val (.int p2), .val (.ref b47), .val (.int (p2 &&& (3 : Int32))), .val .null, .unset] [(.ref b_55)])) _
    refine XS.astore X55.here hx rfl (hb hby at_83) rfl rfl (l' := #[.val (.int p0), .val (.int p1), .val (.int p2), .val (.ref b47), .val (.int (p2 &&& (3 : Int32))), .val .null, .val (.ref b_55)]) rfl ?_
    show Steps p.tables e below (T55.setTop (mkF m 85 #[.val (.int p0), .val (.int p1), .val (.int p2), .val (.ref b47), .val (.int (p2 &&& (3 : Int32))), .val .null, .val (.ref b_55)] [])) _
    refine XS.aload X55.here hx rfl (hb hby at_85) rfl rfl ?_
    show Steps p.tables e below (T55.setTop (mkF m 87 #[.val (.int p0), .val (.int p1), .val (.int p2), .val (.ref b47), .val (.int (p2 &&& (3 : Int32))), .val .null, .val (.ref b_55)] [(.ref b_55)])) _
    refine st57.trans ?_
    show Steps p.tables e below (T57.setTop (mkF m 90 #[.val (.int p0), .val (.int p1), .val (.int p2), .val (.ref b47), .val (.int (p2 &&& (3 : Int32))), .val .null, .val (.ref b_55)] [(.ref kn)])) _
    refine st58 _ ?_
    show Steps p.tables e below (T58.setTop (mkF m 93 #[.val (.int p0), .val (.int p1), .val (.int p2), .val (.ref b47), .val (.int (p2 &&& (3 : Int32))), .val .null, .val (.ref b_55)] [(.ref kn), (.ref kn)])) _
    refine Jvm.RoadKit.acmp (g := (mkF m 93 #[.val (.int p0), .val (.int p1), .val (.int p2), .val (.ref b47), .val (.int (p2 &&& (3 : Int32))), .val .null, .val (.ref b_55)] [(.ref kn), (.ref kn)])) X58 hx rfl rfl rfl (pc0 := 93) (pc' := 96) (same := true) rfl (hb hby at_93) rfl (decide_eq_true rfl) (by decide) (by decide) ?_
    show Steps p.tables e below (T58.setTop (mkF m 96 #[.val (.int p0), .val (.int p1), .val (.int p2), .val (.ref b47), .val (.int (p2 &&& (3 : Int32))), .val .null, .val (.ref b_55)] [])) _
    refine XS.aload X58.here hx rfl (hb hby at_96) rfl rfl ?_
    show Steps p.tables e below (T58.setTop (mkF m 98 #[.val (.int p0), .val (.int p1), .val (.int p2), .val (.ref b47), .val (.int (p2 &&& (3 : Int32))), .val .null, .val (.ref b_55)] [(.ref b_55)])) _
    refine st59.trans ?_
    show Steps p.tables e below (T59.setTop (mkF m 101 #[.val (.int p0), .val (.int p1), .val (.int p2), .val (.ref b47), .val (.int (p2 &&& (3 : Int32))), .val .null, .val (.ref b_55)] [.null])) _
    refine XS.aload X59.here hx rfl (hb hby at_101) rfl rfl ?_
    show Steps p.tables e below (T59.setTop (mkF m 103 #[.val (.int p0), .val (.int p1), .val (.int p2), .val (.ref b47), .val (.int (p2 &&& (3 : Int32))), .val .null, .val (.ref b_55)] [.null, .null])) _
    refine Jvm.RoadKit.acmp (g := (mkF m 103 #[.val (.int p0), .val (.int p1), .val (.int p2), .val (.ref b47), .val (.int (p2 &&& (3 : Int32))), .val .null, .val (.ref b_55)] [.null, .null])) X59 hx rfl rfl rfl (pc0 := 103) (pc' := 106) (same := true) rfl (hb hby at_103) rfl (decide_eq_true rfl) (by decide) (by decide) ?_
    show Steps p.tables e below (T59.setTop (mkF m 106 #[.val (.int p0), .val (.int p1), .val (.int p2), .val (.ref b47), .val (.int (p2 &&& (3 : Int32))), .val .null, .val (.ref b_55)] [])) _
    refine XS.iconst X59.here hx rfl (hb hby at_106) ?_
    show Steps p.tables e below (T59.setTop (mkF m 107 #[.val (.int p0), .val (.int p1), .val (.int p2), .val (.ref b47), .val (.int (p2 &&& (3 : Int32))), .val .null, .val (.ref b_55)] [(.int (1 : Int32))])) _
    refine XS.goto X59.here hx rfl (pc0 := 107) (pc' := 111) rfl (hb hby at_107) (by decide) (by decide) ?_
    show Steps p.tables e below (T59.setTop (mkF m 111 #[.val (.int p0), .val (.int p1), .val (.int p2), .val (.ref b47), .val (.int (p2 &&& (3 : Int32))), .val .null, .val (.ref b_55)] [(.int (1 : Int32))])) _
    exact retN X59 hx (t := .boolean) Bd.returns (by simp) (hb hby at_111) hr
  · show Q0 Z G1 kn p0 p1 p2 h0 n0 _ T59.heap _
    rw [eq59]
    exact ⟨rfl, N59, K0_56⟩
  · show CHr Z own_EL s.vm s.heap T59.vm T59.heap
    rw [hh, eq59]
    exact hFin
set_option maxRecDepth 65536 in
set_option maxHeartbeats 40000000 in
theorem rm0_1 (l : Launch) (Z : State) (a0 : Array Value) (G1 : Int32) (kn : Addr) (hG : Glob Z a0 G1 kn) (ws : List Jvm.Cond) (p0 : Int32) (p1 : Int32) (p2 : Int32) (h0 : Heap) (n0 : Nat) (Z0 : n0 ≤ h0.size) (X00 : Old Z n0 h0) (hc29 : ¬ ((p2 &&& (3 : Int32)) = (0 : Int32))) (hc41 : (p2 &&& (3 : Int32)) = (1 : Int32)) :
    MetFree l x (head1 (Jvm.Cond.code x code maxLocals ret :: ws) room_1) (fun a U => a = #[(.int p0), (.int p1), (.int p2)] ∧ Z.Warmed39 U.vm ∧ U.heap = h0 ∧ CHv Z own_EL U.vm h0) (fun _ _ _ _ _ => True) (fun _ U o U' => ∃ v L, o = .returned v ∧ Q0 Z G1 kn p0 p1 p2 h0 n0 v U'.heap L ∧ CHr Z own_EL U.vm U.heap U'.vm U'.heap ∧ ReturnedEndW U o U' L room_1.cells room_1.slots) := by
  obtain ⟨hw, O_cs, P_cs, O_kn⟩ := id hG
  have W : ∀ (i : Nat) {d : Jvm.Cond}, tables_1[i]? = some d → d.before a0 Z = true := fun i d h => hw d (List.mem_of_getElem? h)
  refine MetFree.of_bodySF (plainFor_of_name pn_com_example_clauses_to_controls_clausestocontrols_service_DependencyFindingNoDataPinLaw) hisR ?_
  intro p e s m args below meth c s₁ Bd hml0 hP hK
  obtain ⟨rfl, hZ, hh, hCH⟩ := hP
  have hx := Bd.exec
  have hby := Bd.bytes
  have hml : c.maxLocals = 7 := hml0
  have hown : s.vm.findClass "com/example/clauses_to_controls/clausestocontrols/service/DependencyFindingNoDataPinLaw" = some m.cls := findClass_of_methodNamed Bd.named
  have hnm := (name_of_methodNamed Bd.named Bd.method).1
  have X0 : Stand p l e room_1 (s.setVm s.vm) m #[(.int p0), (.int p1), (.int p2)] below meth c s₁ [] 0 0 := Stand.of_body Bd
  have e0 : s₁.heap = h0 := by rw [← hh, Bd.state]; rfl
  have hS0 : s.Since s.vm h0.size := (State.WarmedH.refl s).since _
  have hk0 : h0.size ≤ h0.size := Nat.le_refl _
  have R0 : CHr Z own_EL s.vm h0 s.vm h0 := CHr.refl hCH
  have hEL := own_ew hw
  have N0 := Fr.nil n0
  have pre0 : ∀ t, Steps p.tables e below (s₁.setTop (mkF m 0 #[.val (.int p0), .val (.int p1), .val (.int p2), .unset, .unset, .unset, .unset] [])) t → Steps p.tables e below (s₁.setTop (entryFrame m #[(.int p0), (.int p1), (.int p2)] maxLocals)) t := fun t kk_ => castTop (ef_code_III m p0 p1 p2) kk_
  obtain ⟨T60, h60, k60, X60, e60, E60, A60, st60⟩ := newP X0 hx hZ (W 0 rfl) e0 (g := (mkF m 1 #[.val (.int p0), .val (.int p1), .val (.int p2), .unset, .unset, .unset, .unset] [(.int (2 : Int32))])) rfl (hb hby at_1) rfl (by decide) (cap := 2) (by decide) (by decide) (by decide) (by decide)
  obtain ⟨b60, g60⟩ : ∃ z, z = h0.size := ⟨_, rfl⟩
  rw [← g60] at A60 st60
  have Z61 : n0 ≤ h60.size := Nat.le_trans Z0 E60.1
  have K0_61 : Keep h0 h60 [] := (Keep.refl h0 []).ext E60
  have O61 : Old Z n0 h60 := X00.ext E60
  have R61 : CHr Z own_EL s.vm h0 s.vm h60 := R0.trans (CHr.ext E60 R0.1)
  have hk61 : h0.size ≤ h60.size := Nat.le_trans hk0 E60.1
  have lo_b60 : h0.size ≤ b60 := Nat.le_of_eq g60.symm
  have g_b60 : n0 ≤ b60 := Nat.le_trans Z0 lo_b60
  have l0_b60 : h0.size ≤ b60 := Nat.le_trans (Keep.refl h0 []).1 lo_b60
  have V_b60 : Arv Z h60 b60 k60 .char (2 : Int32) [(.int (0 : Int32)), (.int (0 : Int32))] (.int (0 : Int32)) := (Arv.new A60 (by decide)).pad (pad_rep [] (.int (0 : Int32)) 2)
  obtain ⟨clq62, Arq62, qaq62, Sq62, Nq62, Hq62, Gq62⟩ := id V_b60
  have hinq62 : ¬ ((0 : Int32) < 0 ∨ clq62.slots.size ≤ ((0 : Int32)).toNatClampNeg) := inb_of Sq62 ⟨by decide, by decide⟩
  obtain ⟨T63, h63, X63, e63, W63, st63⟩ := stC X60 hx hZ e60 Arq62 (j := (0 : Int32)) hinq62 (g := (mkF m 12 #[.val (.int p0), .val (.int p1), .val (.int p2), .val (.ref b60), .unset, .unset, .unset] [(.int ((p0 &&& (255 : Int32)).toUInt32.toUInt16.toUInt32.toInt32)), (.int (0 : Int32)), (.ref b60)])) rfl rfl (hb hby at_12)
  have V63 : Arv Z h63 b60 k60 .char (2 : Int32) [(.int (nar .char ((p0 &&& (255 : Int32)).toUInt32.toUInt16.toUInt32.toInt32))), (.int (0 : Int32))] (.int (0 : Int32)) := Arv.set Arq62 qaq62 Sq62 Nq62 Hq62 Gq62 (fits_nar_char _) W63 0 rfl (Nat.le_of_ble_eq_true rfl)
  have Z64 : n0 ≤ h63.size := Nat.le_trans Z61 (Keep.of_wr W63).1
  have K0_64 : Keep h0 h63 [] := K0_61.wr W63 (Or.inr l0_b60)
  have O64 : Old Z n0 h63 := O61.wr W63 g_b60
  have R64 : CHr Z own_EL s.vm h0 s.vm h63 := R61.trans (CHr.wr W63 (Safe.arv hZ.alike V_b60 (by decide)) R61.1)
  have hk64 : h0.size ≤ h63.size := Nat.le_trans hk61 (Keep.of_wr W63).1
  have N63 := Fr.snoc X63 N0 g_b60
  obtain ⟨clq65, Arq65, qaq65, Sq65, Nq65, Hq65, Gq65⟩ := id V63
  have hinq65 : ¬ ((1 : Int32) < 0 ∨ clq65.slots.size ≤ ((1 : Int32)).toNatClampNeg) := inb_of Sq65 ⟨by decide, by decide⟩
  obtain ⟨T66, h66, X66, e66, W66, st66⟩ := stC X63 hx hZ e63 Arq65 (j := (1 : Int32)) hinq65 (g := (mkF m 21 #[.val (.int p0), .val (.int p1), .val (.int p2), .val (.ref b60), .unset, .unset, .unset] [(.int ((p1 &&& (255 : Int32)).toUInt32.toUInt16.toUInt32.toInt32)), (.int (1 : Int32)), (.ref b60)])) rfl rfl (hb hby at_21)
  have V66 : Arv Z h66 b60 k60 .char (2 : Int32) [(.int (nar .char ((p0 &&& (255 : Int32)).toUInt32.toUInt16.toUInt32.toInt32))), (.int (nar .char ((p1 &&& (255 : Int32)).toUInt32.toUInt16.toUInt32.toInt32)))] (.int (0 : Int32)) := Arv.set Arq65 qaq65 Sq65 Nq65 Hq65 Gq65 (fits_nar_char _) W66 1 rfl (Nat.le_of_ble_eq_true rfl)
  have Z67 : n0 ≤ h66.size := Nat.le_trans Z64 (Keep.of_wr W66).1
  have K0_67 : Keep h0 h66 [] := K0_64.wr W66 (Or.inr l0_b60)
  have O67 : Old Z n0 h66 := O64.wr W66 g_b60
  have R67 : CHr Z own_EL s.vm h0 s.vm h66 := R64.trans (CHr.wr W66 (Safe.arv hZ.alike V63 (by decide)) R64.1)
  have hk67 : h0.size ≤ h66.size := Nat.le_trans hk64 (Keep.of_wr W66).1
  have N66 := Fr.snoc X66 N63 g_b60
  obtain ⟨clq68, Arq68, qaq68, Sq68, Nq68, Hq68, Gq68⟩ := id V66
  have hinq68 : ¬ ((0 : Int32) < 0 ∨ clq68.slots.size ≤ ((0 : Int32)).toNatClampNeg) := inb_of Sq68 ⟨by decide, by decide⟩
  have hatq68 : clq68.slots[((0 : Int32)).toNatClampNeg]? = some (.int (nar .char ((p0 &&& (255 : Int32)).toUInt32.toUInt16.toUInt32.toInt32))) := Has.at Hq68 hinq68 rfl
  -- pc 47: java/lang/String.valueOf
  obtain ⟨_, _, ⟨T69, L69, k69, n69⟩, -, X69, ⟨Lc69, hQ69, l69, y69, z69⟩, st69⟩ := Jvm.LawKit.callS X66 hx (y := y3) hown (mvT hZ (W 63 rfl)) (mvT hZ (W 64 rfl)) (mvT hZ (W 3 rfl)) (mvT hZ (W 65 rfl)) (by decide) (backOf (W := 0) (rmvo l Z a0 G1 kn hG [] (nar .char ((p0 &&& (255 : Int32)).toUInt32.toUInt16.toUInt32.toInt32)) h66 n0 Z67 O67 ((own_char255 _).2)) hZ (W 65 rfl) (W 3 rfl) (by decide) (by decide)) (g := (mkF m 47 #[.val (.int p0), .val (.int p1), .val (.int p2), .val (.ref b60), .val (.int (p2 &&& (3 : Int32))), .unset, .unset] [(.int (nar .char ((p0 &&& (255 : Int32)).toUInt32.toUInt16.toUInt32.toInt32)))])) rfl (by rw [hml]; rfl) (argsL := [(.int (nar .char ((p0 &&& (255 : Int32)).toUInt32.toUInt16.toUInt32.toInt32)))]) (rest := []) (lenOf pd__C_Ljava_lang_String_ rfl) rfl (by show 2 * 0 + _ ≤ _; exact Nat.le_of_eq rfl) (hb hby at_47) (fun _ _ => ⟨rfl, e66, (by decide : 1 + 2 ≤ _), (by decide : 2 + 5 ≤ _)⟩)
  dsimp only [Pt.U, Pt.locs, Pt.cells, Pt.slots] at X69 l69 y69 z69 st69 hQ69
  subst l69 y69 z69
  obtain ⟨b_69, rfl, N69q, K69, f69_0, f69_1⟩ := hQ69
  have N69 := Fr.app N66 N69q
  have Z70 : n0 ≤ T69.heap.size := Nat.le_trans Z67 K69.1
  have K0_70 : Keep h0 T69.heap [] := K0_67.trans K69 all0
  have O70 : Old Z n0 T69.heap := O67.keep K69 all0
  have R70 : CHr Z own_EL s.vm h0 s.vm T69.heap := R67.trans (CHr.keep K69 sf0 R67.1)
  have hk70 : h0.size ≤ T69.heap.size := Nat.le_trans hk67 K69.1
  have lo_b_69 : h66.size ≤ b_69 := f69_0
  have g_b_69 : n0 ≤ b_69 := Nat.le_trans Z67 lo_b_69
  have l0_b_69 : h0.size ≤ b_69 := Nat.le_trans K0_67.1 lo_b_69
  -- pc 80: com/example/clauses_to_controls/clausestocontrols/service/DependencyFinding.noData
  obtain ⟨_, _, ⟨T71, L71, k71, n71⟩, -, X71, ⟨Lc71, hQ71, l71, y71, z71⟩, st71⟩ := Jvm.LawKit.callS X69 hx (y := y7) hown (mvT hZ (W 30 rfl)) (mvT hZ (W 31 rfl)) (mvT hZ (W 32 rfl)) (mvT hZ (W 33 rfl)) (by decide) (backOf (W := 0) (rmnod l Z a0 G1 kn hG [] (.ref b_69) T69.heap n0 Z70 O70 rfl) hZ (W 33 rfl) (W 32 rfl) (by decide) (by decide)) (g := (mkF m 80 #[.val (.int p0), .val (.int p1), .val (.int p2), .val (.ref b60), .val (.int (p2 &&& (3 : Int32))), .val (.ref b_69), .unset] [(.ref b_69)])) rfl (by rw [hml]; rfl) (argsL := [(.ref b_69)]) (rest := []) (lenOf pd__Ljava_lang_String__Lcom_example_clauses_to_controls_clausestocontrols_service_DependencyFinding_ rfl) rfl (by show 2 * 0 + _ ≤ _; exact Nat.le_of_eq rfl) (hb hby at_80) (fun _ _ => ⟨rfl, rfl, (by decide : 3 + 1 ≤ _), (by decide : 7 + 3 ≤ _)⟩)
  dsimp only [Pt.U, Pt.locs, Pt.cells, Pt.slots] at X71 l71 y71 z71 st71 hQ71
  subst l71 y71 z71
  obtain ⟨b_71, rfl, N71q, K71, f71_0, f71_1, f71_2, f71_3⟩ := hQ71
  have N71 := Fr.app N69 N71q
  have Z72 : n0 ≤ T71.heap.size := Nat.le_trans Z70 K71.1
  have K0_72 : Keep h0 T71.heap [] := K0_70.trans K71 all0
  have O72 : Old Z n0 T71.heap := O70.keep K71 all0
  have R72 : CHr Z own_EL s.vm h0 s.vm T71.heap := R70.trans (CHr.keep K71 sf0 R70.1)
  have hk72 : h0.size ≤ T71.heap.size := Nat.le_trans hk70 K71.1
  have lo_b_71 : T69.heap.size ≤ b_71 := f71_0
  have g_b_71 : n0 ≤ b_71 := Nat.le_trans Z70 lo_b_71
  have l0_b_71 : h0.size ≤ b_71 := Nat.le_trans K0_70.1 lo_b_71
  obtain ⟨cq73, kq73, q73a, q73b, q73c⟩ := isOf hZ rfl f71_1
  -- pc 87: com/example/clauses_to_controls/clausestocontrols/service/DependencyFinding.kind
  obtain ⟨_, _, ⟨T73, L73, k73, n73⟩, -, X73, ⟨Lc73, hQ73, l73, y73, z73⟩, st73⟩ := X71.virtualBack hx (y := y5) (z := y5) hown (mvT hZ (W 49 rfl)) (mvT hZ (W 50 rfl)) (notFace_of_selects (args := #[]) (mvT hZ (W 52 rfl))) (mvT hZ (W 52 rfl)) (mvT hZ (W 51 rfl)) (by decide) (backOf (W := 0) (rmG_DependencyFinding_kind l Z a0 G1 kn hG [] b_71 (.ref kn) T71.heap n0 Z72 O72 f71_2 rfl) hZ (W 53 rfl) (W 32 rfl) (by decide) (by decide)) q73a q73c (g := (mkF m 87 #[.val (.int p0), .val (.int p1), .val (.int p2), .val (.ref b60), .val (.int (p2 &&& (3 : Int32))), .val (.ref b_69), .val (.ref b_71)] [(.ref b_71)])) rfl (by rw [hml]; rfl) (Steps.refl _) (argsL := []) (rest := []) (lenOf pd___Lcom_example_clauses_to_controls_clausestocontrols_service_DependencyFinding_Kind_ rfl) rfl (by show 2 * 0 + _ ≤ _; exact Nat.le_of_eq rfl) (hb hby at_87) (fun _ _ => ⟨rfl, rfl, (by decide : 4 + 0 ≤ _), (by decide : 10 + 0 ≤ _)⟩)
  dsimp only [Pt.U, Pt.locs, Pt.cells, Pt.slots] at X73 l73 y73 z73 st73 hQ73
  subst l73 y73 z73
  obtain ⟨rfl, N73q, eq73⟩ := hQ73
  have N73 := Fr.app N71 N73q
  obtain ⟨T74, X74, e74, st74⟩ := getS2 X73 hx hZ hown (host := "") (Or.inl (W 54 rfl)) Via.refl eq73 (O_kn.ext O72.2) (g := (mkF m 90 #[.val (.int p0), .val (.int p1), .val (.int p2), .val (.ref b60), .val (.int (p2 &&& (3 : Int32))), .val (.ref b_69), .val (.ref b_71)] [(.ref kn)])) rfl (hb hby at_90)
  obtain ⟨cq75, kq75, q75a, q75b, q75c⟩ := isOf hZ e74 f71_1
  -- pc 98: com/example/clauses_to_controls/clausestocontrols/service/DependencyFinding.component
  obtain ⟨_, _, ⟨T75, L75, k75, n75⟩, -, X75, ⟨Lc75, hQ75, l75, y75, z75⟩, st75⟩ := X74.virtualBack hx (y := y6) (z := y6) hown (mvT hZ (W 55 rfl)) (mvT hZ (W 56 rfl)) (notFace_of_selects (args := #[]) (mvT hZ (W 58 rfl))) (mvT hZ (W 58 rfl)) (mvT hZ (W 57 rfl)) (by decide) (backOf (W := 0) (rmG_DependencyFinding_component l Z a0 G1 kn hG [] b_71 (.ref b_69) T71.heap n0 Z72 O72 f71_3 rfl) hZ (W 59 rfl) (W 32 rfl) (by decide) (by decide)) q75a q75c (g := (mkF m 98 #[.val (.int p0), .val (.int p1), .val (.int p2), .val (.ref b60), .val (.int (p2 &&& (3 : Int32))), .val (.ref b_69), .val (.ref b_71)] [(.ref b_71)])) rfl (by rw [hml]; rfl) (Steps.refl _) (argsL := []) (rest := []) (lenOf pd___Ljava_lang_String_ rfl) rfl (by show 2 * 0 + _ ≤ _; exact Nat.le_of_eq rfl) (hb hby at_98) (fun _ _ => ⟨rfl, e74, (by decide : 4 + 0 ≤ _), (by decide : 10 + 0 ≤ _)⟩)
  dsimp only [Pt.U, Pt.locs, Pt.cells, Pt.slots] at X75 l75 y75 z75 st75 hQ75
  subst l75 y75 z75
  obtain ⟨rfl, N75q, eq75⟩ := hQ75
  have N75 := Fr.app N73 N75q
  obtain ⟨fs, hr, hrun, hended, hend⟩ := Jvm.Stand.leaveW (v := some (.int (1 : Int32))) X75 hS0 (by rw [eq75]; exact hk72) (fun h => by rw [Bd.returns] at h; cases h)
  have hFin := R72.trans (CHv.at X75 hZ hEL R72.1)
  refine ⟨_, _, pre0 _ ?_, hrun, hended, _, _, rfl, ?_, ?_, own_mono hend (Nat.le_of_ble_eq_true rfl) (Nat.le_of_ble_eq_true rfl)⟩
  · show Steps p.tables e below (s₁.setTop (mkF m 0 #[.val (.int p0), .val (.int p1), .val (.int p2), .unset, .unset, .unset, .unset] [])) _
    refine XS.iconst X0.here hx rfl (hb hby at_0) ?_
    show Steps p.tables e below (s₁.setTop (mkF m 1 #[.val (.int p0), .val (.int p1), .val (.int p2), .unset, .unset, .unset, .unset] [(.int (2 : Int32))])) _
    refine st60 _ ?_
    show Steps p.tables e below (T60.setTop (mkF m 3 #[.val (.int p0), .val (.int p1), .val (.int p2), .unset, .unset, .unset, .unset] [(.ref b60)])) _
    refine XS.astoreN X60.here hx rfl (hb hby at_3) rfl rfl (l' := #[.val (.int p0), .val (.int p1), .val (.int p2), .val (.ref b60), .unset, .unset, .unset]) rfl ?_
    show Steps p.tables e below (T60.setTop (mkF m 4 #[.val (.int p0), .val (.int p1), .val (.int p2), .val (.ref b60), .unset, .unset, .unset] [])) _
    refine XS.aloadN X60.here hx rfl (hb hby at_4) rfl rfl ?_
    show Steps p.tables e below (T60.setTop (mkF m 5 #[.val (.int p0), .val (.int p1), .val (.int p2), .val (.ref b60), .unset, .unset, .unset] [(.ref b60)])) _
    refine XS.iconst X60.here hx rfl (hb hby at_5) ?_
    show Steps p.tables e below (T60.setTop (mkF m 6 #[.val (.int p0), .val (.int p1), .val (.int p2), .val (.ref b60), .unset, .unset, .unset] [(.int (0 : Int32)), (.ref b60)])) _
    refine XS.iloadN X60.here hx rfl (hb hby at_6) rfl ?_
    show Steps p.tables e below (T60.setTop (mkF m 7 #[.val (.int p0), .val (.int p1), .val (.int p2), .val (.ref b60), .unset, .unset, .unset] [(.int p0), (.int (0 : Int32)), (.ref b60)])) _
    refine XS.sipush X60.here hx rfl (hb hby at_7) ?_
    show Steps p.tables e below (T60.setTop (mkF m 10 #[.val (.int p0), .val (.int p1), .val (.int p2), .val (.ref b60), .unset, .unset, .unset] [(.int (255 : Int32)), (.int p0), (.int (0 : Int32)), (.ref b60)])) _
    refine XS.iand X60.here hx rfl (hb hby at_10) rfl ?_
    show Steps p.tables e below (T60.setTop (mkF m 11 #[.val (.int p0), .val (.int p1), .val (.int p2), .val (.ref b60), .unset, .unset, .unset] [(.int (p0 &&& (255 : Int32))), (.int (0 : Int32)), (.ref b60)])) _
    refine XS.i2c X60.here hx rfl (hb hby at_11) rfl ?_
    show Steps p.tables e below (T60.setTop (mkF m 12 #[.val (.int p0), .val (.int p1), .val (.int p2), .val (.ref b60), .unset, .unset, .unset] [(.int ((p0 &&& (255 : Int32)).toUInt32.toUInt16.toUInt32.toInt32)), (.int (0 : Int32)), (.ref b60)])) _
    refine st63 _ ?_
    show Steps p.tables e below (T63.setTop (mkF m 13 #[.val (.int p0), .val (.int p1), .val (.int p2), .val (.ref b60), .unset, .unset, .unset] [])) _
    refine XS.aloadN X63.here hx rfl (hb hby at_13) rfl rfl ?_
    show Steps p.tables e below (T63.setTop (mkF m 14 #[.val (.int p0), .val (.int p1), .val (.int p2), .val (.ref b60), .unset, .unset, .unset] [(.ref b60)])) _
    refine XS.iconst X63.here hx rfl (hb hby at_14) ?_
    show Steps p.tables e below (T63.setTop (mkF m 15 #[.val (.int p0), .val (.int p1), .val (.int p2), .val (.ref b60), .unset, .unset, .unset] [(.int (1 : Int32)), (.ref b60)])) _
    refine XS.iloadN X63.here hx rfl (hb hby at_15) rfl ?_
    show Steps p.tables e below (T63.setTop (mkF m 16 #[.val (.int p0), .val (.int p1), .val (.int p2), .val (.ref b60), .unset, .unset, .unset] [(.int p1), (.int (1 : Int32)), (.ref b60)])) _
    refine XS.sipush X63.here hx rfl (hb hby at_16) ?_
    show Steps p.tables e below (T63.setTop (mkF m 19 #[.val (.int p0), .val (.int p1), .val (.int p2), .val (.ref b60), .unset, .unset, .unset] [(.int (255 : Int32)), (.int p1), (.int (1 : Int32)), (.ref b60)])) _
    refine XS.iand X63.here hx rfl (hb hby at_19) rfl ?_
    show Steps p.tables e below (T63.setTop (mkF m 20 #[.val (.int p0), .val (.int p1), .val (.int p2), .val (.ref b60), .unset, .unset, .unset] [(.int (p1 &&& (255 : Int32))), (.int (1 : Int32)), (.ref b60)])) _
    refine XS.i2c X63.here hx rfl (hb hby at_20) rfl ?_
    show Steps p.tables e below (T63.setTop (mkF m 21 #[.val (.int p0), .val (.int p1), .val (.int p2), .val (.ref b60), .unset, .unset, .unset] [(.int ((p1 &&& (255 : Int32)).toUInt32.toUInt16.toUInt32.toInt32)), (.int (1 : Int32)), (.ref b60)])) _
    refine st66 _ ?_
    show Steps p.tables e below (T66.setTop (mkF m 22 #[.val (.int p0), .val (.int p1), .val (.int p2), .val (.ref b60), .unset, .unset, .unset] [])) _
    refine XS.iloadN X66.here hx rfl (hb hby at_22) rfl ?_
    show Steps p.tables e below (T66.setTop (mkF m 23 #[.val (.int p0), .val (.int p1), .val (.int p2), .val (.ref b60), .unset, .unset, .unset] [(.int p2)])) _
    refine XS.iconst X66.here hx rfl (hb hby at_23) ?_
    show Steps p.tables e below (T66.setTop (mkF m 24 #[.val (.int p0), .val (.int p1), .val (.int p2), .val (.ref b60), .unset, .unset, .unset] [(.int (3 : Int32)), (.int p2)])) _
    refine XS.iand X66.here hx rfl (hb hby at_24) rfl ?_
    show Steps p.tables e below (T66.setTop (mkF m 25 #[.val (.int p0), .val (.int p1), .val (.int p2), .val (.ref b60), .unset, .unset, .unset] [(.int (p2 &&& (3 : Int32)))])) _
    refine XS.istore X66.here hx rfl (hb hby at_25) rfl (l' := #[.val (.int p0), .val (.int p1), .val (.int p2), .val (.ref b60), .val (.int (p2 &&& (3 : Int32))), .unset, .unset]) rfl ?_
    show Steps p.tables e below (T66.setTop (mkF m 27 #[.val (.int p0), .val (.int p1), .val (.int p2), .val (.ref b60), .val (.int (p2 &&& (3 : Int32))), .unset, .unset] [])) _
    refine XS.iload X66.here hx rfl (hb hby at_27) rfl ?_
    show Steps p.tables e below (T66.setTop (mkF m 29 #[.val (.int p0), .val (.int p1), .val (.int p2), .val (.ref b60), .val (.int (p2 &&& (3 : Int32))), .unset, .unset] [(.int (p2 &&& (3 : Int32)))])) _
    refine XS.ifYes X66.here hx rfl (pc0 := 29) (pc' := 38) rfl (hb hby at_29) rfl ((if0 _ _).trans (feq (hc29 : ¬ ((p2 &&& (3 : Int32)) = (0 : Int32)))).2) (by decide) (by decide) ?_
    show Steps p.tables e below (T66.setTop (mkF m 38 #[.val (.int p0), .val (.int p1), .val (.int p2), .val (.ref b60), .val (.int (p2 &&& (3 : Int32))), .unset, .unset] [])) _
    refine XS.iload X66.here hx rfl (hb hby at_38) rfl ?_
    show Steps p.tables e below (T66.setTop (mkF m 40 #[.val (.int p0), .val (.int p1), .val (.int p2), .val (.ref b60), .val (.int (p2 &&& (3 : Int32))), .unset, .unset] [(.int (p2 &&& (3 : Int32)))])) _
    refine XS.iconst X66.here hx rfl (hb hby at_40) ?_
    show Steps p.tables e below (T66.setTop (mkF m 41 #[.val (.int p0), .val (.int p1), .val (.int p2), .val (.ref b60), .val (.int (p2 &&& (3 : Int32))), .unset, .unset] [(.int (1 : Int32)), (.int (p2 &&& (3 : Int32)))])) _
    refine XS.icmpNo X66.here hx rfl (hb hby at_41) rfl (teq (hc41 : (p2 &&& (3 : Int32)) = (1 : Int32))).2 ?_
    show Steps p.tables e below (T66.setTop (mkF m 44 #[.val (.int p0), .val (.int p1), .val (.int p2), .val (.ref b60), .val (.int (p2 &&& (3 : Int32))), .unset, .unset] [])) _
    refine XS.aloadN X66.here hx rfl (hb hby at_44) rfl rfl ?_
    show Steps p.tables e below (T66.setTop (mkF m 45 #[.val (.int p0), .val (.int p1), .val (.int p2), .val (.ref b60), .val (.int (p2 &&& (3 : Int32))), .unset, .unset] [(.ref b60)])) _
    refine XS.iconst X66.here hx rfl (hb hby at_45) ?_
    show Steps p.tables e below (T66.setTop (mkF m 46 #[.val (.int p0), .val (.int p1), .val (.int p2), .val (.ref b60), .val (.int (p2 &&& (3 : Int32))), .unset, .unset] [(.int (0 : Int32)), (.ref b60)])) _
    refine X66.caload hx (j := (0 : Int32)) (v := (.int (nar .char ((p0 &&& (255 : Int32)).toUInt32.toUInt16.toUInt32.toInt32)))) (by rw [e66]; exact Arq68.1) (State.isArrayOf_alike hZ.alike Arq68.2.1) Arq68.2.2 hinq68 hatq68 (g := (mkF m 46 #[.val (.int p0), .val (.int p1), .val (.int p2), .val (.ref b60), .val (.int (p2 &&& (3 : Int32))), .unset, .unset] [(.int (0 : Int32)), (.ref b60)])) rfl rfl (hb hby at_46) _ ?_
    show Steps p.tables e below (T66.setTop (mkF m 47 #[.val (.int p0), .val (.int p1), .val (.int p2), .val (.ref b60), .val (.int (p2 &&& (3 : Int32))), .unset, .unset] [(.int (nar .char ((p0 &&& (255 : Int32)).toUInt32.toUInt16.toUInt32.toInt32)))])) _
    refine st69 _ ?_
    show Steps p.tables e below (T69.setTop (mkF m 50 #[.val (.int p0), .val (.int p1), .val (.int p2), .val (.ref b60), .val (.int (p2 &&& (3 : Int32))), .unset, .unset] [(.ref b_69)])) _
    refine XS.astore X69.here hx rfl (hb hby at_50) rfl rfl (l' := #[.val (.int p0), .val (.int p1), .val (.int p2), .val (.ref b60), .val (.int (p2 &&& (3 : Int32))), .val (.ref b_69), .unset]) rfl ?_
    show Steps p.tables e below (T69.setTop (mkF m 52 #[.val (.int p0), .val (.int p1), .val (.int p2), .val (.ref b60), .val (.int (p2 &&& (3 : Int32))), .val (.ref b_69), .unset] [])) _
    refine XS.goto X69.here hx rfl (pc0 := 52) (pc' := 78) rfl (hb hby at_52) (by decide) (by decide) ?_
    show Steps p.tables e below (T69.setTop (mkF m 78 #[.val (.int p0), .val (.int p1), .val (.int p2), .val (.ref b60), .val (.int (p2 &&& (3 : Int32))), .val (.ref b_69), .unset] [])) _
    refine XS.aload X69.here hx rfl (hb hby at_78) rfl rfl ?_
    show Steps p.tables e below (T69.setTop (mkF m 80 #[.val (.int p0), .val (.int p1), .val (.int p2), .val (.ref b60), .val (.int (p2 &&& (3 : Int32))), .val (.ref b_69), .unset] [(.ref b_69)])) _
    refine st71 _ ?_
    show Steps p.tables e below (T71.setTop (mkF m 83 #[.val (.int p0), .val (.int p1), .val (.int p2), .val (.ref b60), .val (.int (p2 &&& (3 : Int32))), .val (.ref b_69), .unset] [(.ref b_71)])) _
    refine XS.astore X71.here hx rfl (hb hby at_83) rfl rfl (l' := #[.val (.int p0), .val (.int p1), .val (.int p2), .val (.ref b60), .val (.int (p2 &&& (3 : Int32))), .val (.ref b_69), .val (.ref b_71)]) rfl ?_
    show Steps p.tables e below (T71.setTop (mkF m 85 #[.val (.int p0), .val (.int p1), .val (.int p2), .val (.ref b60), .val (.int (p2 &&& (3 : Int32))), .val (.ref b_69), .val (.ref b_71)] [])) _
    refine XS.aload X71.here hx rfl (hb hby at_85) rfl rfl ?_
    show Steps p.tables e below (T71.setTop (mkF m 87 #[.val (.int p0), .val (.int p1), .val (.int p2), .val (.ref b60), .val (.int (p2 &&& (3 : Int32))), .val (.ref b_69), .val (.ref b_71)] [(.ref b_71)])) _
    refine st73.trans ?_
    show Steps p.tables e below (T73.setTop (mkF m 90 #[.val (.int p0), .val (.int p1), .val (.int p2), .val (.ref b60), .val (.int (p2 &&& (3 : Int32))), .val (.ref b_69), .val (.ref b_71)] [(.ref kn)])) _
    refine st74 _ ?_
    show Steps p.tables e below (T74.setTop (mkF m 93 #[.val (.int p0), .val (.int p1), .val (.int p2), .val (.ref b60), .val (.int (p2 &&& (3 : Int32))), .val (.ref b_69), .val (.ref b_71)] [(.ref kn), (.ref kn)])) _
    refine Jvm.RoadKit.acmp (g := (mkF m 93 #[.val (.int p0), .val (.int p1), .val (.int p2), .val (.ref b60), .val (.int (p2 &&& (3 : Int32))), .val (.ref b_69), .val (.ref b_71)] [(.ref kn), (.ref kn)])) X74 hx rfl rfl rfl (pc0 := 93) (pc' := 96) (same := true) rfl (hb hby at_93) rfl (decide_eq_true rfl) (by decide) (by decide) ?_
    show Steps p.tables e below (T74.setTop (mkF m 96 #[.val (.int p0), .val (.int p1), .val (.int p2), .val (.ref b60), .val (.int (p2 &&& (3 : Int32))), .val (.ref b_69), .val (.ref b_71)] [])) _
    refine XS.aload X74.here hx rfl (hb hby at_96) rfl rfl ?_
    show Steps p.tables e below (T74.setTop (mkF m 98 #[.val (.int p0), .val (.int p1), .val (.int p2), .val (.ref b60), .val (.int (p2 &&& (3 : Int32))), .val (.ref b_69), .val (.ref b_71)] [(.ref b_71)])) _
    refine st75.trans ?_
    show Steps p.tables e below (T75.setTop (mkF m 101 #[.val (.int p0), .val (.int p1), .val (.int p2), .val (.ref b60), .val (.int (p2 &&& (3 : Int32))), .val (.ref b_69), .val (.ref b_71)] [(.ref b_69)])) _
    refine XS.aload X75.here hx rfl (hb hby at_101) rfl rfl ?_
    show Steps p.tables e below (T75.setTop (mkF m 103 #[.val (.int p0), .val (.int p1), .val (.int p2), .val (.ref b60), .val (.int (p2 &&& (3 : Int32))), .val (.ref b_69), .val (.ref b_71)] [(.ref b_69), (.ref b_69)])) _
    refine Jvm.RoadKit.acmp (g := (mkF m 103 #[.val (.int p0), .val (.int p1), .val (.int p2), .val (.ref b60), .val (.int (p2 &&& (3 : Int32))), .val (.ref b_69), .val (.ref b_71)] [(.ref b_69), (.ref b_69)])) X75 hx rfl rfl rfl (pc0 := 103) (pc' := 106) (same := true) rfl (hb hby at_103) rfl (decide_eq_true rfl) (by decide) (by decide) ?_
    show Steps p.tables e below (T75.setTop (mkF m 106 #[.val (.int p0), .val (.int p1), .val (.int p2), .val (.ref b60), .val (.int (p2 &&& (3 : Int32))), .val (.ref b_69), .val (.ref b_71)] [])) _
    refine XS.iconst X75.here hx rfl (hb hby at_106) ?_
    show Steps p.tables e below (T75.setTop (mkF m 107 #[.val (.int p0), .val (.int p1), .val (.int p2), .val (.ref b60), .val (.int (p2 &&& (3 : Int32))), .val (.ref b_69), .val (.ref b_71)] [(.int (1 : Int32))])) _
    refine XS.goto X75.here hx rfl (pc0 := 107) (pc' := 111) rfl (hb hby at_107) (by decide) (by decide) ?_
    show Steps p.tables e below (T75.setTop (mkF m 111 #[.val (.int p0), .val (.int p1), .val (.int p2), .val (.ref b60), .val (.int (p2 &&& (3 : Int32))), .val (.ref b_69), .val (.ref b_71)] [(.int (1 : Int32))])) _
    exact retN X75 hx (t := .boolean) Bd.returns (by simp) (hb hby at_111) hr
  · show Q0 Z G1 kn p0 p1 p2 h0 n0 _ T75.heap _
    rw [eq75]
    exact ⟨rfl, N75, K0_72⟩
  · show CHr Z own_EL s.vm s.heap T75.vm T75.heap
    rw [hh, eq75]
    exact hFin
set_option maxRecDepth 65536 in
set_option maxHeartbeats 40000000 in
theorem rm0_2 (l : Launch) (Z : State) (a0 : Array Value) (G1 : Int32) (kn : Addr) (hG : Glob Z a0 G1 kn) (ws : List Jvm.Cond) (p0 : Int32) (p1 : Int32) (p2 : Int32) (h0 : Heap) (n0 : Nat) (Z0 : n0 ≤ h0.size) (X00 : Old Z n0 h0) (hc29 : ¬ ((p2 &&& (3 : Int32)) = (0 : Int32))) (hc41 : ¬ ((p2 &&& (3 : Int32)) = (1 : Int32))) (hc58 : (p2 &&& (3 : Int32)) = (2 : Int32)) :
    MetFree l x (head1 (Jvm.Cond.code x code maxLocals ret :: ws) room_1) (fun a U => a = #[(.int p0), (.int p1), (.int p2)] ∧ Z.Warmed39 U.vm ∧ U.heap = h0 ∧ CHv Z own_EL U.vm h0) (fun _ _ _ _ _ => True) (fun _ U o U' => ∃ v L, o = .returned v ∧ Q0 Z G1 kn p0 p1 p2 h0 n0 v U'.heap L ∧ CHr Z own_EL U.vm U.heap U'.vm U'.heap ∧ ReturnedEndW U o U' L room_1.cells room_1.slots) := by
  obtain ⟨hw, O_cs, P_cs, O_kn⟩ := id hG
  have W : ∀ (i : Nat) {d : Jvm.Cond}, tables_1[i]? = some d → d.before a0 Z = true := fun i d h => hw d (List.mem_of_getElem? h)
  refine MetFree.of_bodySF (plainFor_of_name pn_com_example_clauses_to_controls_clausestocontrols_service_DependencyFindingNoDataPinLaw) hisR ?_
  intro p e s m args below meth c s₁ Bd hml0 hP hK
  obtain ⟨rfl, hZ, hh, hCH⟩ := hP
  have hx := Bd.exec
  have hby := Bd.bytes
  have hml : c.maxLocals = 7 := hml0
  have hown : s.vm.findClass "com/example/clauses_to_controls/clausestocontrols/service/DependencyFindingNoDataPinLaw" = some m.cls := findClass_of_methodNamed Bd.named
  have hnm := (name_of_methodNamed Bd.named Bd.method).1
  have X0 : Stand p l e room_1 (s.setVm s.vm) m #[(.int p0), (.int p1), (.int p2)] below meth c s₁ [] 0 0 := Stand.of_body Bd
  have e0 : s₁.heap = h0 := by rw [← hh, Bd.state]; rfl
  have hS0 : s.Since s.vm h0.size := (State.WarmedH.refl s).since _
  have hk0 : h0.size ≤ h0.size := Nat.le_refl _
  have R0 : CHr Z own_EL s.vm h0 s.vm h0 := CHr.refl hCH
  have hEL := own_ew hw
  have N0 := Fr.nil n0
  have pre0 : ∀ t, Steps p.tables e below (s₁.setTop (mkF m 0 #[.val (.int p0), .val (.int p1), .val (.int p2), .unset, .unset, .unset, .unset] [])) t → Steps p.tables e below (s₁.setTop (entryFrame m #[(.int p0), (.int p1), (.int p2)] maxLocals)) t := fun t kk_ => castTop (ef_code_III m p0 p1 p2) kk_
  obtain ⟨T76, h76, k76, X76, e76, E76, A76, st76⟩ := newP X0 hx hZ (W 0 rfl) e0 (g := (mkF m 1 #[.val (.int p0), .val (.int p1), .val (.int p2), .unset, .unset, .unset, .unset] [(.int (2 : Int32))])) rfl (hb hby at_1) rfl (by decide) (cap := 2) (by decide) (by decide) (by decide) (by decide)
  obtain ⟨b76, g76⟩ : ∃ z, z = h0.size := ⟨_, rfl⟩
  rw [← g76] at A76 st76
  have Z77 : n0 ≤ h76.size := Nat.le_trans Z0 E76.1
  have K0_77 : Keep h0 h76 [] := (Keep.refl h0 []).ext E76
  have O77 : Old Z n0 h76 := X00.ext E76
  have R77 : CHr Z own_EL s.vm h0 s.vm h76 := R0.trans (CHr.ext E76 R0.1)
  have hk77 : h0.size ≤ h76.size := Nat.le_trans hk0 E76.1
  have lo_b76 : h0.size ≤ b76 := Nat.le_of_eq g76.symm
  have g_b76 : n0 ≤ b76 := Nat.le_trans Z0 lo_b76
  have l0_b76 : h0.size ≤ b76 := Nat.le_trans (Keep.refl h0 []).1 lo_b76
  have V_b76 : Arv Z h76 b76 k76 .char (2 : Int32) [(.int (0 : Int32)), (.int (0 : Int32))] (.int (0 : Int32)) := (Arv.new A76 (by decide)).pad (pad_rep [] (.int (0 : Int32)) 2)
  obtain ⟨clq78, Arq78, qaq78, Sq78, Nq78, Hq78, Gq78⟩ := id V_b76
  have hinq78 : ¬ ((0 : Int32) < 0 ∨ clq78.slots.size ≤ ((0 : Int32)).toNatClampNeg) := inb_of Sq78 ⟨by decide, by decide⟩
  obtain ⟨T79, h79, X79, e79, W79, st79⟩ := stC X76 hx hZ e76 Arq78 (j := (0 : Int32)) hinq78 (g := (mkF m 12 #[.val (.int p0), .val (.int p1), .val (.int p2), .val (.ref b76), .unset, .unset, .unset] [(.int ((p0 &&& (255 : Int32)).toUInt32.toUInt16.toUInt32.toInt32)), (.int (0 : Int32)), (.ref b76)])) rfl rfl (hb hby at_12)
  have V79 : Arv Z h79 b76 k76 .char (2 : Int32) [(.int (nar .char ((p0 &&& (255 : Int32)).toUInt32.toUInt16.toUInt32.toInt32))), (.int (0 : Int32))] (.int (0 : Int32)) := Arv.set Arq78 qaq78 Sq78 Nq78 Hq78 Gq78 (fits_nar_char _) W79 0 rfl (Nat.le_of_ble_eq_true rfl)
  have Z80 : n0 ≤ h79.size := Nat.le_trans Z77 (Keep.of_wr W79).1
  have K0_80 : Keep h0 h79 [] := K0_77.wr W79 (Or.inr l0_b76)
  have O80 : Old Z n0 h79 := O77.wr W79 g_b76
  have R80 : CHr Z own_EL s.vm h0 s.vm h79 := R77.trans (CHr.wr W79 (Safe.arv hZ.alike V_b76 (by decide)) R77.1)
  have hk80 : h0.size ≤ h79.size := Nat.le_trans hk77 (Keep.of_wr W79).1
  have N79 := Fr.snoc X79 N0 g_b76
  obtain ⟨clq81, Arq81, qaq81, Sq81, Nq81, Hq81, Gq81⟩ := id V79
  have hinq81 : ¬ ((1 : Int32) < 0 ∨ clq81.slots.size ≤ ((1 : Int32)).toNatClampNeg) := inb_of Sq81 ⟨by decide, by decide⟩
  obtain ⟨T82, h82, X82, e82, W82, st82⟩ := stC X79 hx hZ e79 Arq81 (j := (1 : Int32)) hinq81 (g := (mkF m 21 #[.val (.int p0), .val (.int p1), .val (.int p2), .val (.ref b76), .unset, .unset, .unset] [(.int ((p1 &&& (255 : Int32)).toUInt32.toUInt16.toUInt32.toInt32)), (.int (1 : Int32)), (.ref b76)])) rfl rfl (hb hby at_21)
  have V82 : Arv Z h82 b76 k76 .char (2 : Int32) [(.int (nar .char ((p0 &&& (255 : Int32)).toUInt32.toUInt16.toUInt32.toInt32))), (.int (nar .char ((p1 &&& (255 : Int32)).toUInt32.toUInt16.toUInt32.toInt32)))] (.int (0 : Int32)) := Arv.set Arq81 qaq81 Sq81 Nq81 Hq81 Gq81 (fits_nar_char _) W82 1 rfl (Nat.le_of_ble_eq_true rfl)
  have Z83 : n0 ≤ h82.size := Nat.le_trans Z80 (Keep.of_wr W82).1
  have K0_83 : Keep h0 h82 [] := K0_80.wr W82 (Or.inr l0_b76)
  have O83 : Old Z n0 h82 := O80.wr W82 g_b76
  have R83 : CHr Z own_EL s.vm h0 s.vm h82 := R80.trans (CHr.wr W82 (Safe.arv hZ.alike V79 (by decide)) R80.1)
  have hk83 : h0.size ≤ h82.size := Nat.le_trans hk80 (Keep.of_wr W82).1
  have N82 := Fr.snoc X82 N79 g_b76
  obtain ⟨T84, h84, X84, e84, E84, A84, D84, -, st84⟩ := newO X82 hx hZ hown (W 1 rfl) (W 2 rfl) (W 3 rfl) e82 (g := (mkF m 61 #[.val (.int p0), .val (.int p1), .val (.int p2), .val (.ref b76), .val (.int (p2 &&& (3 : Int32))), .unset, .unset] [])) rfl (hb hby at_61) (by decide) (by decide)
  obtain ⟨b84, g84⟩ : ∃ z, z = h82.size := ⟨_, rfl⟩
  rw [← g84] at A84 D84 st84
  have Z85 : n0 ≤ h84.size := Nat.le_trans Z83 E84.1
  have K0_85 : Keep h0 h84 [] := K0_83.ext E84
  have O85 : Old Z n0 h84 := O83.ext E84
  have R85 : CHr Z own_EL s.vm h0 s.vm h84 := R83.trans (CHr.ext E84 R83.1)
  have hk85 : h0.size ≤ h84.size := Nat.le_trans hk83 E84.1
  have lo_b84 : h82.size ≤ b84 := Nat.le_of_eq g84.symm
  have g_b84 : n0 ≤ b84 := Nat.le_trans Z83 lo_b84
  have l0_b84 : h0.size ≤ b84 := Nat.le_trans K0_83.1 lo_b84
  have F_coder_b84 : Fld Z h84 b84 "java/lang/String" "coder" "B" (.int (0 : Int32)) := D84 (Or.inr (W 27 rfl)) (ty := .byte) (by decide)
  have F_value_b84 : Fld Z h84 b84 "java/lang/String" "value" "[B" .null := D84 (Or.inr (W 29 rfl)) (ty := (.array .byte)) (by decide)
  have hws86 := own_hws hw
  have hp86 : ∀ c ∈ ([(nar .char ((p0 &&& (255 : Int32)).toUInt32.toUInt16.toUInt32.toInt32)), (nar .char ((p1 &&& (255 : Int32)).toUInt32.toUInt16.toUInt32.toInt32))] : List Int32), ¬ c < 0 ∧ ¬ (255 : Int32) < c := by
    intro c hc
    simp only [List.mem_cons, List.not_mem_nil, or_false] at hc
    rcases hc with rfl | rfl <;> exact own_char255 _
  have f87 := (V82.ext E84)
  -- pc 66: java/lang/String.<init>
  obtain ⟨_, _, ⟨T86, L86, k86, n86⟩, -, X86, ⟨Lc86, hQ86, l86, y86, z86⟩, st86⟩ := X84.specialBack hx (y := y8) rfl hown (mvT hZ (W 4 rfl)) (mvT hZ (W 5 rfl)) (mvT hZ (W 6 rfl)) (by decide) (StrChars.Road.backV (W := 1) hZ hws86 (kI := 4) (W 2 rfl) (cs := ([(nar .char ((p0 &&& (255 : Int32)).toUInt32.toUInt16.toUInt32.toInt32)), (nar .char ((p1 &&& (255 : Int32)).toUInt32.toUInt16.toUInt32.toInt32))] : List Int32)) (bs := (([(nar .char ((p0 &&& (255 : Int32)).toUInt32.toUInt16.toUInt32.toInt32)), (nar .char ((p1 &&& (255 : Int32)).toUInt32.toUInt16.toUInt32.toInt32))] : List Int32)).map (fun c => c.toInt8.toInt32)) (n := 2) g_b84 Z85 A84 F_value_b84 F_coder_b84 f87 (O_cs.ext O85.2) P_cs rfl rfl (by decide) (by decide) hp86 rfl (by decide) (by decide)) (g := (mkF m 66 #[.val (.int p0), .val (.int p1), .val (.int p2), .val (.ref b76), .val (.int (p2 &&& (3 : Int32))), .unset, .unset] [(.ref b76), (.ref b84), (.ref b84)])) rfl (by rw [hml]; rfl) (Steps.refl _) (a := b84) (argsL := [(.ref b76)]) (rest := [(.ref b84)]) (lenOf pd___C_V rfl) rfl (by show 2 * 0 + _ ≤ _; exact Nat.le_of_eq rfl) (hb hby at_66) (fun _ _ => ⟨rfl, e84, (by decide : 2 + 1 ≤ _), (by decide : 6 + 2 ≤ _)⟩)
  dsimp only [Pt.U, Pt.locs, Pt.cells, Pt.slots] at X86 l86 y86 z86 st86 hQ86
  subst l86 y86 z86
  obtain ⟨rfl, N86q, K86, E86x, C86x, t86, kb86, gt86, lt86, nt86, V86x, B86x⟩ := hQ86
  have N86 := Fr.app N82 N86q
  have Z88 : n0 ≤ T86.heap.size := Nat.le_trans Z85 K86.1
  have K0_88 : Keep h0 T86.heap [] := K0_85.trans K86 (allS (Or.inr l0_b84) all0)
  have O88 : Old Z n0 T86.heap := O85.keep K86 (allS g_b84 all0)
  have R88 : CHr Z own_EL s.vm h0 s.vm T86.heap := R85.trans (CHr.keep K86 (sfS (own_safeS hZ.alike A84 F_value_b84) sf0) R85.1)
  have hk88 : h0.size ≤ T86.heap.size := Nat.le_trans hk85 K86.1
  have lo_t86 : h84.size ≤ t86 := lt86
  have g_t86 : n0 ≤ t86 := Nat.le_trans Z85 lo_t86
  have l0_t86 : h0.size ≤ t86 := Nat.le_trans K0_85.1 lo_t86
  -- pc 80: com/example/clauses_to_controls/clausestocontrols/service/DependencyFinding.noData
  obtain ⟨_, _, ⟨T89, L89, k89, n89⟩, -, X89, ⟨Lc89, hQ89, l89, y89, z89⟩, st89⟩ := Jvm.LawKit.callS X86 hx (y := y7) hown (mvT hZ (W 30 rfl)) (mvT hZ (W 31 rfl)) (mvT hZ (W 32 rfl)) (mvT hZ (W 33 rfl)) (by decide) (backOf (W := 0) (rmnod l Z a0 G1 kn hG [] (.ref b84) T86.heap n0 Z88 O88 rfl) hZ (W 33 rfl) (W 32 rfl) (by decide) (by decide)) (g := (mkF m 80 #[.val (.int p0), .val (.int p1), .val (.int p2), .val (.ref b76), .val (.int (p2 &&& (3 : Int32))), .val (.ref b84), .unset] [(.ref b84)])) rfl (by rw [hml]; rfl) (argsL := [(.ref b84)]) (rest := []) (lenOf pd__Ljava_lang_String__Lcom_example_clauses_to_controls_clausestocontrols_service_DependencyFinding_ rfl) rfl (by show 2 * 0 + _ ≤ _; exact Nat.le_of_eq rfl) (hb hby at_80) (fun _ _ => ⟨rfl, rfl, (by decide : 3 + 1 ≤ _), (by decide : 8 + 3 ≤ _)⟩)
  dsimp only [Pt.U, Pt.locs, Pt.cells, Pt.slots] at X89 l89 y89 z89 st89 hQ89
  subst l89 y89 z89
  obtain ⟨b_89, rfl, N89q, K89, f89_0, f89_1, f89_2, f89_3⟩ := hQ89
  have N89 := Fr.app N86 N89q
  have Z90 : n0 ≤ T89.heap.size := Nat.le_trans Z88 K89.1
  have K0_90 : Keep h0 T89.heap [] := K0_88.trans K89 all0
  have O90 : Old Z n0 T89.heap := O88.keep K89 all0
  have R90 : CHr Z own_EL s.vm h0 s.vm T89.heap := R88.trans (CHr.keep K89 sf0 R88.1)
  have hk90 : h0.size ≤ T89.heap.size := Nat.le_trans hk88 K89.1
  have lo_b_89 : T86.heap.size ≤ b_89 := f89_0
  have g_b_89 : n0 ≤ b_89 := Nat.le_trans Z88 lo_b_89
  have l0_b_89 : h0.size ≤ b_89 := Nat.le_trans K0_88.1 lo_b_89
  obtain ⟨cq91, kq91, q91a, q91b, q91c⟩ := isOf hZ rfl f89_1
  -- pc 87: com/example/clauses_to_controls/clausestocontrols/service/DependencyFinding.kind
  obtain ⟨_, _, ⟨T91, L91, k91, n91⟩, -, X91, ⟨Lc91, hQ91, l91, y91, z91⟩, st91⟩ := X89.virtualBack hx (y := y5) (z := y5) hown (mvT hZ (W 49 rfl)) (mvT hZ (W 50 rfl)) (notFace_of_selects (args := #[]) (mvT hZ (W 52 rfl))) (mvT hZ (W 52 rfl)) (mvT hZ (W 51 rfl)) (by decide) (backOf (W := 0) (rmG_DependencyFinding_kind l Z a0 G1 kn hG [] b_89 (.ref kn) T89.heap n0 Z90 O90 f89_2 rfl) hZ (W 53 rfl) (W 32 rfl) (by decide) (by decide)) q91a q91c (g := (mkF m 87 #[.val (.int p0), .val (.int p1), .val (.int p2), .val (.ref b76), .val (.int (p2 &&& (3 : Int32))), .val (.ref b84), .val (.ref b_89)] [(.ref b_89)])) rfl (by rw [hml]; rfl) (Steps.refl _) (argsL := []) (rest := []) (lenOf pd___Lcom_example_clauses_to_controls_clausestocontrols_service_DependencyFinding_Kind_ rfl) rfl (by show 2 * 0 + _ ≤ _; exact Nat.le_of_eq rfl) (hb hby at_87) (fun _ _ => ⟨rfl, rfl, (by decide : 4 + 0 ≤ _), (by decide : 11 + 0 ≤ _)⟩)
  dsimp only [Pt.U, Pt.locs, Pt.cells, Pt.slots] at X91 l91 y91 z91 st91 hQ91
  subst l91 y91 z91
  obtain ⟨rfl, N91q, eq91⟩ := hQ91
  have N91 := Fr.app N89 N91q
  obtain ⟨T92, X92, e92, st92⟩ := getS2 X91 hx hZ hown (host := "") (Or.inl (W 54 rfl)) Via.refl eq91 (O_kn.ext O90.2) (g := (mkF m 90 #[.val (.int p0), .val (.int p1), .val (.int p2), .val (.ref b76), .val (.int (p2 &&& (3 : Int32))), .val (.ref b84), .val (.ref b_89)] [(.ref kn)])) rfl (hb hby at_90)
  obtain ⟨cq93, kq93, q93a, q93b, q93c⟩ := isOf hZ e92 f89_1
  -- pc 98: com/example/clauses_to_controls/clausestocontrols/service/DependencyFinding.component
  obtain ⟨_, _, ⟨T93, L93, k93, n93⟩, -, X93, ⟨Lc93, hQ93, l93, y93, z93⟩, st93⟩ := X92.virtualBack hx (y := y6) (z := y6) hown (mvT hZ (W 55 rfl)) (mvT hZ (W 56 rfl)) (notFace_of_selects (args := #[]) (mvT hZ (W 58 rfl))) (mvT hZ (W 58 rfl)) (mvT hZ (W 57 rfl)) (by decide) (backOf (W := 0) (rmG_DependencyFinding_component l Z a0 G1 kn hG [] b_89 (.ref b84) T89.heap n0 Z90 O90 f89_3 rfl) hZ (W 59 rfl) (W 32 rfl) (by decide) (by decide)) q93a q93c (g := (mkF m 98 #[.val (.int p0), .val (.int p1), .val (.int p2), .val (.ref b76), .val (.int (p2 &&& (3 : Int32))), .val (.ref b84), .val (.ref b_89)] [(.ref b_89)])) rfl (by rw [hml]; rfl) (Steps.refl _) (argsL := []) (rest := []) (lenOf pd___Ljava_lang_String_ rfl) rfl (by show 2 * 0 + _ ≤ _; exact Nat.le_of_eq rfl) (hb hby at_98) (fun _ _ => ⟨rfl, e92, (by decide : 4 + 0 ≤ _), (by decide : 11 + 0 ≤ _)⟩)
  dsimp only [Pt.U, Pt.locs, Pt.cells, Pt.slots] at X93 l93 y93 z93 st93 hQ93
  subst l93 y93 z93
  obtain ⟨rfl, N93q, eq93⟩ := hQ93
  have N93 := Fr.app N91 N93q
  obtain ⟨fs, hr, hrun, hended, hend⟩ := Jvm.Stand.leaveW (v := some (.int (1 : Int32))) X93 hS0 (by rw [eq93]; exact hk90) (fun h => by rw [Bd.returns] at h; cases h)
  have hFin := R90.trans (CHv.at X93 hZ hEL R90.1)
  refine ⟨_, _, pre0 _ ?_, hrun, hended, _, _, rfl, ?_, ?_, own_mono hend (Nat.le_of_ble_eq_true rfl) (Nat.le_of_ble_eq_true rfl)⟩
  · show Steps p.tables e below (s₁.setTop (mkF m 0 #[.val (.int p0), .val (.int p1), .val (.int p2), .unset, .unset, .unset, .unset] [])) _
    refine XS.iconst X0.here hx rfl (hb hby at_0) ?_
    show Steps p.tables e below (s₁.setTop (mkF m 1 #[.val (.int p0), .val (.int p1), .val (.int p2), .unset, .unset, .unset, .unset] [(.int (2 : Int32))])) _
    refine st76 _ ?_
    show Steps p.tables e below (T76.setTop (mkF m 3 #[.val (.int p0), .val (.int p1), .val (.int p2), .unset, .unset, .unset, .unset] [(.ref b76)])) _
    refine XS.astoreN X76.here hx rfl (hb hby at_3) rfl rfl (l' := #[.val (.int p0), .val (.int p1), .val (.int p2), .val (.ref b76), .unset, .unset, .unset]) rfl ?_
    show Steps p.tables e below (T76.setTop (mkF m 4 #[.val (.int p0), .val (.int p1), .val (.int p2), .val (.ref b76), .unset, .unset, .unset] [])) _
    refine XS.aloadN X76.here hx rfl (hb hby at_4) rfl rfl ?_
    show Steps p.tables e below (T76.setTop (mkF m 5 #[.val (.int p0), .val (.int p1), .val (.int p2), .val (.ref b76), .unset, .unset, .unset] [(.ref b76)])) _
    refine XS.iconst X76.here hx rfl (hb hby at_5) ?_
    show Steps p.tables e below (T76.setTop (mkF m 6 #[.val (.int p0), .val (.int p1), .val (.int p2), .val (.ref b76), .unset, .unset, .unset] [(.int (0 : Int32)), (.ref b76)])) _
    refine XS.iloadN X76.here hx rfl (hb hby at_6) rfl ?_
    show Steps p.tables e below (T76.setTop (mkF m 7 #[.val (.int p0), .val (.int p1), .val (.int p2), .val (.ref b76), .unset, .unset, .unset] [(.int p0), (.int (0 : Int32)), (.ref b76)])) _
    refine XS.sipush X76.here hx rfl (hb hby at_7) ?_
    show Steps p.tables e below (T76.setTop (mkF m 10 #[.val (.int p0), .val (.int p1), .val (.int p2), .val (.ref b76), .unset, .unset, .unset] [(.int (255 : Int32)), (.int p0), (.int (0 : Int32)), (.ref b76)])) _
    refine XS.iand X76.here hx rfl (hb hby at_10) rfl ?_
    show Steps p.tables e below (T76.setTop (mkF m 11 #[.val (.int p0), .val (.int p1), .val (.int p2), .val (.ref b76), .unset, .unset, .unset] [(.int (p0 &&& (255 : Int32))), (.int (0 : Int32)), (.ref b76)])) _
    refine XS.i2c X76.here hx rfl (hb hby at_11) rfl ?_
    show Steps p.tables e below (T76.setTop (mkF m 12 #[.val (.int p0), .val (.int p1), .val (.int p2), .val (.ref b76), .unset, .unset, .unset] [(.int ((p0 &&& (255 : Int32)).toUInt32.toUInt16.toUInt32.toInt32)), (.int (0 : Int32)), (.ref b76)])) _
    refine st79 _ ?_
    show Steps p.tables e below (T79.setTop (mkF m 13 #[.val (.int p0), .val (.int p1), .val (.int p2), .val (.ref b76), .unset, .unset, .unset] [])) _
    refine XS.aloadN X79.here hx rfl (hb hby at_13) rfl rfl ?_
    show Steps p.tables e below (T79.setTop (mkF m 14 #[.val (.int p0), .val (.int p1), .val (.int p2), .val (.ref b76), .unset, .unset, .unset] [(.ref b76)])) _
    refine XS.iconst X79.here hx rfl (hb hby at_14) ?_
    show Steps p.tables e below (T79.setTop (mkF m 15 #[.val (.int p0), .val (.int p1), .val (.int p2), .val (.ref b76), .unset, .unset, .unset] [(.int (1 : Int32)), (.ref b76)])) _
    refine XS.iloadN X79.here hx rfl (hb hby at_15) rfl ?_
    show Steps p.tables e below (T79.setTop (mkF m 16 #[.val (.int p0), .val (.int p1), .val (.int p2), .val (.ref b76), .unset, .unset, .unset] [(.int p1), (.int (1 : Int32)), (.ref b76)])) _
    refine XS.sipush X79.here hx rfl (hb hby at_16) ?_
    show Steps p.tables e below (T79.setTop (mkF m 19 #[.val (.int p0), .val (.int p1), .val (.int p2), .val (.ref b76), .unset, .unset, .unset] [(.int (255 : Int32)), (.int p1), (.int (1 : Int32)), (.ref b76)])) _
    refine XS.iand X79.here hx rfl (hb hby at_19) rfl ?_
    show Steps p.tables e below (T79.setTop (mkF m 20 #[.val (.int p0), .val (.int p1), .val (.int p2), .val (.ref b76), .unset, .unset, .unset] [(.int (p1 &&& (255 : Int32))), (.int (1 : Int32)), (.ref b76)])) _
    refine XS.i2c X79.here hx rfl (hb hby at_20) rfl ?_
    show Steps p.tables e below (T79.setTop (mkF m 21 #[.val (.int p0), .val (.int p1), .val (.int p2), .val (.ref b76), .unset, .unset, .unset] [(.int ((p1 &&& (255 : Int32)).toUInt32.toUInt16.toUInt32.toInt32)), (.int (1 : Int32)), (.ref b76)])) _
    refine st82 _ ?_
    show Steps p.tables e below (T82.setTop (mkF m 22 #[.val (.int p0), .val (.int p1), .val (.int p2), .val (.ref b76), .unset, .unset, .unset] [])) _
    refine XS.iloadN X82.here hx rfl (hb hby at_22) rfl ?_
    show Steps p.tables e below (T82.setTop (mkF m 23 #[.val (.int p0), .val (.int p1), .val (.int p2), .val (.ref b76), .unset, .unset, .unset] [(.int p2)])) _
    refine XS.iconst X82.here hx rfl (hb hby at_23) ?_
    show Steps p.tables e below (T82.setTop (mkF m 24 #[.val (.int p0), .val (.int p1), .val (.int p2), .val (.ref b76), .unset, .unset, .unset] [(.int (3 : Int32)), (.int p2)])) _
    refine XS.iand X82.here hx rfl (hb hby at_24) rfl ?_
    show Steps p.tables e below (T82.setTop (mkF m 25 #[.val (.int p0), .val (.int p1), .val (.int p2), .val (.ref b76), .unset, .unset, .unset] [(.int (p2 &&& (3 : Int32)))])) _
    refine XS.istore X82.here hx rfl (hb hby at_25) rfl (l' := #[.val (.int p0), .val (.int p1), .val (.int p2), .val (.ref b76), .val (.int (p2 &&& (3 : Int32))), .unset, .unset]) rfl ?_
    show Steps p.tables e below (T82.setTop (mkF m 27 #[.val (.int p0), .val (.int p1), .val (.int p2), .val (.ref b76), .val (.int (p2 &&& (3 : Int32))), .unset, .unset] [])) _
    refine XS.iload X82.here hx rfl (hb hby at_27) rfl ?_
    show Steps p.tables e below (T82.setTop (mkF m 29 #[.val (.int p0), .val (.int p1), .val (.int p2), .val (.ref b76), .val (.int (p2 &&& (3 : Int32))), .unset, .unset] [(.int (p2 &&& (3 : Int32)))])) _
    refine XS.ifYes X82.here hx rfl (pc0 := 29) (pc' := 38) rfl (hb hby at_29) rfl ((if0 _ _).trans (feq (hc29 : ¬ ((p2 &&& (3 : Int32)) = (0 : Int32)))).2) (by decide) (by decide) ?_
    show Steps p.tables e below (T82.setTop (mkF m 38 #[.val (.int p0), .val (.int p1), .val (.int p2), .val (.ref b76), .val (.int (p2 &&& (3 : Int32))), .unset, .unset] [])) _
    refine XS.iload X82.here hx rfl (hb hby at_38) rfl ?_
    show Steps p.tables e below (T82.setTop (mkF m 40 #[.val (.int p0), .val (.int p1), .val (.int p2), .val (.ref b76), .val (.int (p2 &&& (3 : Int32))), .unset, .unset] [(.int (p2 &&& (3 : Int32)))])) _
    refine XS.iconst X82.here hx rfl (hb hby at_40) ?_
    show Steps p.tables e below (T82.setTop (mkF m 41 #[.val (.int p0), .val (.int p1), .val (.int p2), .val (.ref b76), .val (.int (p2 &&& (3 : Int32))), .unset, .unset] [(.int (1 : Int32)), (.int (p2 &&& (3 : Int32)))])) _
    refine XS.icmpYes X82.here hx rfl (pc0 := 41) (pc' := 55) rfl (hb hby at_41) rfl (feq (hc41 : ¬ ((p2 &&& (3 : Int32)) = (1 : Int32)))).2 (by decide) (by decide) ?_
    show Steps p.tables e below (T82.setTop (mkF m 55 #[.val (.int p0), .val (.int p1), .val (.int p2), .val (.ref b76), .val (.int (p2 &&& (3 : Int32))), .unset, .unset] [])) _
    refine XS.iload X82.here hx rfl (hb hby at_55) rfl ?_
    show Steps p.tables e below (T82.setTop (mkF m 57 #[.val (.int p0), .val (.int p1), .val (.int p2), .val (.ref b76), .val (.int (p2 &&& (3 : Int32))), .unset, .unset] [(.int (p2 &&& (3 : Int32)))])) _
    refine XS.iconst X82.here hx rfl (hb hby at_57) ?_
    show Steps p.tables e below (T82.setTop (mkF m 58 #[.val (.int p0), .val (.int p1), .val (.int p2), .val (.ref b76), .val (.int (p2 &&& (3 : Int32))), .unset, .unset] [(.int (2 : Int32)), (.int (p2 &&& (3 : Int32)))])) _
    refine XS.icmpNo X82.here hx rfl (hb hby at_58) rfl (teq (hc58 : (p2 &&& (3 : Int32)) = (2 : Int32))).2 ?_
    show Steps p.tables e below (T82.setTop (mkF m 61 #[.val (.int p0), .val (.int p1), .val (.int p2), .val (.ref b76), .val (.int (p2 &&& (3 : Int32))), .unset, .unset] [])) _
    refine st84 _ ?_
    show Steps p.tables e below (T84.setTop (mkF m 64 #[.val (.int p0), .val (.int p1), .val (.int p2), .val (.ref b76), .val (.int (p2 &&& (3 : Int32))), .unset, .unset] [(.ref b84)])) _
    refine XS.dup X84.here hx rfl (hb hby at_64) rfl rfl ?_
    show Steps p.tables e below (T84.setTop (mkF m 65 #[.val (.int p0), .val (.int p1), .val (.int p2), .val (.ref b76), .val (.int (p2 &&& (3 : Int32))), .unset, .unset] [(.ref b84), (.ref b84)])) _
    refine XS.aloadN X84.here hx rfl (hb hby at_65) rfl rfl ?_
    show Steps p.tables e below (T84.setTop (mkF m 66 #[.val (.int p0), .val (.int p1), .val (.int p2), .val (.ref b76), .val (.int (p2 &&& (3 : Int32))), .unset, .unset] [(.ref b76), (.ref b84), (.ref b84)])) _
    refine st86.trans ?_
    show Steps p.tables e below (T86.setTop (mkF m 69 #[.val (.int p0), .val (.int p1), .val (.int p2), .val (.ref b76), .val (.int (p2 &&& (3 : Int32))), .unset, .unset] [(.ref b84)])) _
    refine XS.astore X86.here hx rfl (hb hby at_69) rfl rfl (l' := #[.val (.int p0), .val (.int p1), .val (.int p2), .val (.ref b76), .val (.int (p2 &&& (3 : Int32))), .val (.ref b84), .unset]) rfl ?_
    show Steps p.tables e below (T86.setTop (mkF m 71 #[.val (.int p0), .val (.int p1), .val (.int p2), .val (.ref b76), .val (.int (p2 &&& (3 : Int32))), .val (.ref b84), .unset] [])) _
    refine XS.goto X86.here hx rfl (pc0 := 71) (pc' := 78) rfl (hb hby at_71) (by decide) (by decide) ?_
    show Steps p.tables e below (T86.setTop (mkF m 78 #[.val (.int p0), .val (.int p1), .val (.int p2), .val (.ref b76), .val (.int (p2 &&& (3 : Int32))), .val (.ref b84), .unset] [])) _
    refine XS.aload X86.here hx rfl (hb hby at_78) rfl rfl ?_
    show Steps p.tables e below (T86.setTop (mkF m 80 #[.val (.int p0), .val (.int p1), .val (.int p2), .val (.ref b76), .val (.int (p2 &&& (3 : Int32))), .val (.ref b84), .unset] [(.ref b84)])) _
    refine st89 _ ?_
    show Steps p.tables e below (T89.setTop (mkF m 83 #[.val (.int p0), .val (.int p1), .val (.int p2), .val (.ref b76), .val (.int (p2 &&& (3 : Int32))), .val (.ref b84), .unset] [(.ref b_89)])) _
    refine XS.astore X89.here hx rfl (hb hby at_83) rfl rfl (l' := #[.val (.int p0), .val (.int p1), .val (.int p2), .val (.ref b76), .val (.int (p2 &&& (3 : Int32))), .val (.ref b84), .val (.ref b_89)]) rfl ?_
    show Steps p.tables e below (T89.setTop (mkF m 85 #[.val (.int p0), .val (.int p1), .val (.int p2), .val (.ref b76), .val (.int (p2 &&& (3 : Int32))), .val (.ref b84), .val (.ref b_89)] [])) _
    refine XS.aload X89.here hx rfl (hb hby at_85) rfl rfl ?_
    show Steps p.tables e below (T89.setTop (mkF m 87 #[.val (.int p0), .val (.int p1), .val (.int p2), .val (.ref b76), .val (.int (p2 &&& (3 : Int32))), .val (.ref b84), .val (.ref b_89)] [(.ref b_89)])) _
    refine st91.trans ?_
    show Steps p.tables e below (T91.setTop (mkF m 90 #[.val (.int p0), .val (.int p1), .val (.int p2), .val (.ref b76), .val (.int (p2 &&& (3 : Int32))), .val (.ref b84), .val (.ref b_89)] [(.ref kn)])) _
    refine st92 _ ?_
    show Steps p.tables e below (T92.setTop (mkF m 93 #[.val (.int p0), .val (.int p1), .val (.int p2), .val (.ref b76), .val (.int (p2 &&& (3 : Int32))), .val (.ref b84), .val (.ref b_89)] [(.ref kn), (.ref kn)])) _
    refine Jvm.RoadKit.acmp (g := (mkF m 93 #[.val (.int p0), .val (.int p1), .val (.int p2), .val (.ref b76), .val (.int (p2 &&& (3 : Int32))), .val (.ref b84), .val (.ref b_89)] [(.ref kn), (.ref kn)])) X92 hx rfl rfl rfl (pc0 := 93) (pc' := 96) (same := true) rfl (hb hby at_93) rfl (decide_eq_true rfl) (by decide) (by decide) ?_
    show Steps p.tables e below (T92.setTop (mkF m 96 #[.val (.int p0), .val (.int p1), .val (.int p2), .val (.ref b76), .val (.int (p2 &&& (3 : Int32))), .val (.ref b84), .val (.ref b_89)] [])) _
    refine XS.aload X92.here hx rfl (hb hby at_96) rfl rfl ?_
    show Steps p.tables e below (T92.setTop (mkF m 98 #[.val (.int p0), .val (.int p1), .val (.int p2), .val (.ref b76), .val (.int (p2 &&& (3 : Int32))), .val (.ref b84), .val (.ref b_89)] [(.ref b_89)])) _
    refine st93.trans ?_
    show Steps p.tables e below (T93.setTop (mkF m 101 #[.val (.int p0), .val (.int p1), .val (.int p2), .val (.ref b76), .val (.int (p2 &&& (3 : Int32))), .val (.ref b84), .val (.ref b_89)] [(.ref b84)])) _
    refine XS.aload X93.here hx rfl (hb hby at_101) rfl rfl ?_
    show Steps p.tables e below (T93.setTop (mkF m 103 #[.val (.int p0), .val (.int p1), .val (.int p2), .val (.ref b76), .val (.int (p2 &&& (3 : Int32))), .val (.ref b84), .val (.ref b_89)] [(.ref b84), (.ref b84)])) _
    refine Jvm.RoadKit.acmp (g := (mkF m 103 #[.val (.int p0), .val (.int p1), .val (.int p2), .val (.ref b76), .val (.int (p2 &&& (3 : Int32))), .val (.ref b84), .val (.ref b_89)] [(.ref b84), (.ref b84)])) X93 hx rfl rfl rfl (pc0 := 103) (pc' := 106) (same := true) rfl (hb hby at_103) rfl (decide_eq_true rfl) (by decide) (by decide) ?_
    show Steps p.tables e below (T93.setTop (mkF m 106 #[.val (.int p0), .val (.int p1), .val (.int p2), .val (.ref b76), .val (.int (p2 &&& (3 : Int32))), .val (.ref b84), .val (.ref b_89)] [])) _
    refine XS.iconst X93.here hx rfl (hb hby at_106) ?_
    show Steps p.tables e below (T93.setTop (mkF m 107 #[.val (.int p0), .val (.int p1), .val (.int p2), .val (.ref b76), .val (.int (p2 &&& (3 : Int32))), .val (.ref b84), .val (.ref b_89)] [(.int (1 : Int32))])) _
    refine XS.goto X93.here hx rfl (pc0 := 107) (pc' := 111) rfl (hb hby at_107) (by decide) (by decide) ?_
    show Steps p.tables e below (T93.setTop (mkF m 111 #[.val (.int p0), .val (.int p1), .val (.int p2), .val (.ref b76), .val (.int (p2 &&& (3 : Int32))), .val (.ref b84), .val (.ref b_89)] [(.int (1 : Int32))])) _
    exact retN X93 hx (t := .boolean) Bd.returns (by simp) (hb hby at_111) hr
  · show Q0 Z G1 kn p0 p1 p2 h0 n0 _ T93.heap _
    rw [eq93]
    exact ⟨rfl, N93, K0_90⟩
  · show CHr Z own_EL s.vm s.heap T93.vm T93.heap
    rw [hh, eq93]
    exact hFin
set_option maxRecDepth 65536 in
set_option maxHeartbeats 40000000 in
theorem rm0_3 (l : Launch) (Z : State) (a0 : Array Value) (G1 : Int32) (kn : Addr) (hG : Glob Z a0 G1 kn) (ws : List Jvm.Cond) (p0 : Int32) (p1 : Int32) (p2 : Int32) (h0 : Heap) (n0 : Nat) (Z0 : n0 ≤ h0.size) (X00 : Old Z n0 h0) (hc29 : ¬ ((p2 &&& (3 : Int32)) = (0 : Int32))) (hc41 : ¬ ((p2 &&& (3 : Int32)) = (1 : Int32))) (hc58 : ¬ ((p2 &&& (3 : Int32)) = (2 : Int32))) :
    MetFree l x (head1 (Jvm.Cond.code x code maxLocals ret :: ws) room_1) (fun a U => a = #[(.int p0), (.int p1), (.int p2)] ∧ Z.Warmed39 U.vm ∧ U.heap = h0 ∧ CHv Z own_EL U.vm h0) (fun _ _ _ _ _ => True) (fun _ U o U' => ∃ v L, o = .returned v ∧ Q0 Z G1 kn p0 p1 p2 h0 n0 v U'.heap L ∧ CHr Z own_EL U.vm U.heap U'.vm U'.heap ∧ ReturnedEndW U o U' L room_1.cells room_1.slots) := by
  obtain ⟨hw, O_cs, P_cs, O_kn⟩ := id hG
  have W : ∀ (i : Nat) {d : Jvm.Cond}, tables_1[i]? = some d → d.before a0 Z = true := fun i d h => hw d (List.mem_of_getElem? h)
  refine MetFree.of_bodySF (plainFor_of_name pn_com_example_clauses_to_controls_clausestocontrols_service_DependencyFindingNoDataPinLaw) hisR ?_
  intro p e s m args below meth c s₁ Bd hml0 hP hK
  obtain ⟨rfl, hZ, hh, hCH⟩ := hP
  have hx := Bd.exec
  have hby := Bd.bytes
  have hml : c.maxLocals = 7 := hml0
  have hown : s.vm.findClass "com/example/clauses_to_controls/clausestocontrols/service/DependencyFindingNoDataPinLaw" = some m.cls := findClass_of_methodNamed Bd.named
  have hnm := (name_of_methodNamed Bd.named Bd.method).1
  have X0 : Stand p l e room_1 (s.setVm s.vm) m #[(.int p0), (.int p1), (.int p2)] below meth c s₁ [] 0 0 := Stand.of_body Bd
  have e0 : s₁.heap = h0 := by rw [← hh, Bd.state]; rfl
  have hS0 : s.Since s.vm h0.size := (State.WarmedH.refl s).since _
  have hk0 : h0.size ≤ h0.size := Nat.le_refl _
  have R0 : CHr Z own_EL s.vm h0 s.vm h0 := CHr.refl hCH
  have hEL := own_ew hw
  have N0 := Fr.nil n0
  have pre0 : ∀ t, Steps p.tables e below (s₁.setTop (mkF m 0 #[.val (.int p0), .val (.int p1), .val (.int p2), .unset, .unset, .unset, .unset] [])) t → Steps p.tables e below (s₁.setTop (entryFrame m #[(.int p0), (.int p1), (.int p2)] maxLocals)) t := fun t kk_ => castTop (ef_code_III m p0 p1 p2) kk_
  obtain ⟨T94, h94, k94, X94, e94, E94, A94, st94⟩ := newP X0 hx hZ (W 0 rfl) e0 (g := (mkF m 1 #[.val (.int p0), .val (.int p1), .val (.int p2), .unset, .unset, .unset, .unset] [(.int (2 : Int32))])) rfl (hb hby at_1) rfl (by decide) (cap := 2) (by decide) (by decide) (by decide) (by decide)
  obtain ⟨b94, g94⟩ : ∃ z, z = h0.size := ⟨_, rfl⟩
  rw [← g94] at A94 st94
  have Z95 : n0 ≤ h94.size := Nat.le_trans Z0 E94.1
  have K0_95 : Keep h0 h94 [] := (Keep.refl h0 []).ext E94
  have O95 : Old Z n0 h94 := X00.ext E94
  have R95 : CHr Z own_EL s.vm h0 s.vm h94 := R0.trans (CHr.ext E94 R0.1)
  have hk95 : h0.size ≤ h94.size := Nat.le_trans hk0 E94.1
  have lo_b94 : h0.size ≤ b94 := Nat.le_of_eq g94.symm
  have g_b94 : n0 ≤ b94 := Nat.le_trans Z0 lo_b94
  have l0_b94 : h0.size ≤ b94 := Nat.le_trans (Keep.refl h0 []).1 lo_b94
  have V_b94 : Arv Z h94 b94 k94 .char (2 : Int32) [(.int (0 : Int32)), (.int (0 : Int32))] (.int (0 : Int32)) := (Arv.new A94 (by decide)).pad (pad_rep [] (.int (0 : Int32)) 2)
  obtain ⟨clq96, Arq96, qaq96, Sq96, Nq96, Hq96, Gq96⟩ := id V_b94
  have hinq96 : ¬ ((0 : Int32) < 0 ∨ clq96.slots.size ≤ ((0 : Int32)).toNatClampNeg) := inb_of Sq96 ⟨by decide, by decide⟩
  obtain ⟨T97, h97, X97, e97, W97, st97⟩ := stC X94 hx hZ e94 Arq96 (j := (0 : Int32)) hinq96 (g := (mkF m 12 #[.val (.int p0), .val (.int p1), .val (.int p2), .val (.ref b94), .unset, .unset, .unset] [(.int ((p0 &&& (255 : Int32)).toUInt32.toUInt16.toUInt32.toInt32)), (.int (0 : Int32)), (.ref b94)])) rfl rfl (hb hby at_12)
  have V97 : Arv Z h97 b94 k94 .char (2 : Int32) [(.int (nar .char ((p0 &&& (255 : Int32)).toUInt32.toUInt16.toUInt32.toInt32))), (.int (0 : Int32))] (.int (0 : Int32)) := Arv.set Arq96 qaq96 Sq96 Nq96 Hq96 Gq96 (fits_nar_char _) W97 0 rfl (Nat.le_of_ble_eq_true rfl)
  have Z98 : n0 ≤ h97.size := Nat.le_trans Z95 (Keep.of_wr W97).1
  have K0_98 : Keep h0 h97 [] := K0_95.wr W97 (Or.inr l0_b94)
  have O98 : Old Z n0 h97 := O95.wr W97 g_b94
  have R98 : CHr Z own_EL s.vm h0 s.vm h97 := R95.trans (CHr.wr W97 (Safe.arv hZ.alike V_b94 (by decide)) R95.1)
  have hk98 : h0.size ≤ h97.size := Nat.le_trans hk95 (Keep.of_wr W97).1
  have N97 := Fr.snoc X97 N0 g_b94
  obtain ⟨clq99, Arq99, qaq99, Sq99, Nq99, Hq99, Gq99⟩ := id V97
  have hinq99 : ¬ ((1 : Int32) < 0 ∨ clq99.slots.size ≤ ((1 : Int32)).toNatClampNeg) := inb_of Sq99 ⟨by decide, by decide⟩
  obtain ⟨T100, h100, X100, e100, W100, st100⟩ := stC X97 hx hZ e97 Arq99 (j := (1 : Int32)) hinq99 (g := (mkF m 21 #[.val (.int p0), .val (.int p1), .val (.int p2), .val (.ref b94), .unset, .unset, .unset] [(.int ((p1 &&& (255 : Int32)).toUInt32.toUInt16.toUInt32.toInt32)), (.int (1 : Int32)), (.ref b94)])) rfl rfl (hb hby at_21)
  have V100 : Arv Z h100 b94 k94 .char (2 : Int32) [(.int (nar .char ((p0 &&& (255 : Int32)).toUInt32.toUInt16.toUInt32.toInt32))), (.int (nar .char ((p1 &&& (255 : Int32)).toUInt32.toUInt16.toUInt32.toInt32)))] (.int (0 : Int32)) := Arv.set Arq99 qaq99 Sq99 Nq99 Hq99 Gq99 (fits_nar_char _) W100 1 rfl (Nat.le_of_ble_eq_true rfl)
  have Z101 : n0 ≤ h100.size := Nat.le_trans Z98 (Keep.of_wr W100).1
  have K0_101 : Keep h0 h100 [] := K0_98.wr W100 (Or.inr l0_b94)
  have O101 : Old Z n0 h100 := O98.wr W100 g_b94
  have R101 : CHr Z own_EL s.vm h0 s.vm h100 := R98.trans (CHr.wr W100 (Safe.arv hZ.alike V97 (by decide)) R98.1)
  have hk101 : h0.size ≤ h100.size := Nat.le_trans hk98 (Keep.of_wr W100).1
  have N100 := Fr.snoc X100 N97 g_b94
  obtain ⟨a102, T102, h102, k102, X102, e102, E102, hS102, hk102, hZ102, hw102, hC102, -, st102⟩ := ldcOH X100 hx hZ hown (W 60 rfl) (own_sa hw) e100 hS0 hk101 hEL R101.1 (g := (mkF m 74 #[.val (.int p0), .val (.int p1), .val (.int p2), .val (.ref b94), .val (.int (p2 &&& (3 : Int32))), .unset, .unset] [])) rfl (hb hby at_74) (n := 0) (by decide) (by decide) (by decide) (by decide)
  have Z103 : n0 ≤ h102.size := Nat.le_trans Z101 E102.1
  have K0_103 : Keep h0 h102 [] := K0_101.ext E102
  have O103 : Old Z n0 h102 := O101.ext E102
  have Rb102 : CHr Z own_EL s.vm h0 T102.vm h102 := R101.trans hC102
  -- pc 80: com/example/clauses_to_controls/clausestocontrols/service/DependencyFinding.noData
  obtain ⟨_, _, ⟨T104, L104, k104, n104⟩, -, X104, ⟨Lc104, hQ104, l104, y104, z104⟩, st104⟩ := Jvm.LawKit.callS X102 hx (y := y7) hw102 (mvT hZ102 (W 30 rfl)) (mvT hZ102 (W 31 rfl)) (mvT hZ102 (W 32 rfl)) (mvT hZ102 (W 33 rfl)) (by decide) (backOf (W := 0) (rmnod l Z a0 G1 kn hG [] (.ref a102) h102 n0 Z103 O103 rfl) hZ102 (W 33 rfl) (W 32 rfl) (by decide) (by decide)) (g := (mkF m 80 #[.val (.int p0), .val (.int p1), .val (.int p2), .val (.ref b94), .val (.int (p2 &&& (3 : Int32))), .val (.ref a102), .unset] [(.ref a102)])) rfl (by rw [hml]; rfl) (argsL := [(.ref a102)]) (rest := []) (lenOf pd__Ljava_lang_String__Lcom_example_clauses_to_controls_clausestocontrols_service_DependencyFinding_ rfl) rfl (by show 2 * 0 + _ ≤ _; exact Nat.le_of_eq rfl) (hb hby at_80) (fun _ _ => ⟨rfl, e102, (by decide : 3 + 1 ≤ _), (by decide : 6 + 3 ≤ _)⟩)
  dsimp only [Pt.U, Pt.locs, Pt.cells, Pt.slots] at X104 l104 y104 z104 st104 hQ104
  subst l104 y104 z104
  obtain ⟨b_104, rfl, N104q, K104, f104_0, f104_1, f104_2, f104_3⟩ := hQ104
  have N104 := Fr.app N100 N104q
  have Z105 : n0 ≤ T104.heap.size := Nat.le_trans Z103 K104.1
  have K0_105 : Keep h0 T104.heap [] := K0_103.trans K104 all0
  have O105 : Old Z n0 T104.heap := O103.keep K104 all0
  have R105 : CHr Z own_EL s.vm h0 T102.vm T104.heap := Rb102.trans (CHr.keep K104 sf0 Rb102.1)
  have hk105 : k102 ≤ T104.heap.size := Nat.le_trans hk102 K104.1
  have lo_b_104 : h102.size ≤ b_104 := f104_0
  have g_b_104 : n0 ≤ b_104 := Nat.le_trans Z103 lo_b_104
  have l0_b_104 : h0.size ≤ b_104 := Nat.le_trans K0_103.1 lo_b_104
  obtain ⟨cq106, kq106, q106a, q106b, q106c⟩ := isOf hZ102 rfl f104_1
  -- pc 87: com/example/clauses_to_controls/clausestocontrols/service/DependencyFinding.kind
  obtain ⟨_, _, ⟨T106, L106, k106, n106⟩, -, X106, ⟨Lc106, hQ106, l106, y106, z106⟩, st106⟩ := X104.virtualBack hx (y := y5) (z := y5) hw102 (mvT hZ102 (W 49 rfl)) (mvT hZ102 (W 50 rfl)) (notFace_of_selects (args := #[]) (mvT hZ102 (W 52 rfl))) (mvT hZ102 (W 52 rfl)) (mvT hZ102 (W 51 rfl)) (by decide) (backOf (W := 0) (rmG_DependencyFinding_kind l Z a0 G1 kn hG [] b_104 (.ref kn) T104.heap n0 Z105 O105 f104_2 rfl) hZ102 (W 53 rfl) (W 32 rfl) (by decide) (by decide)) q106a q106c (g := (mkF m 87 #[.val (.int p0), .val (.int p1), .val (.int p2), .val (.ref b94), .val (.int (p2 &&& (3 : Int32))), .val (.ref a102), .val (.ref b_104)] [(.ref b_104)])) rfl (by rw [hml]; rfl) (Steps.refl _) (argsL := []) (rest := []) (lenOf pd___Lcom_example_clauses_to_controls_clausestocontrols_service_DependencyFinding_Kind_ rfl) rfl (by show 2 * 0 + _ ≤ _; exact Nat.le_of_eq rfl) (hb hby at_87) (fun _ _ => ⟨rfl, rfl, (by decide : 4 + 0 ≤ _), (by decide : 9 + 0 ≤ _)⟩)
  dsimp only [Pt.U, Pt.locs, Pt.cells, Pt.slots] at X106 l106 y106 z106 st106 hQ106
  subst l106 y106 z106
  obtain ⟨rfl, N106q, eq106⟩ := hQ106
  have N106 := Fr.app N104 N106q
  obtain ⟨T107, X107, e107, st107⟩ := getS2 X106 hx hZ102 hw102 (host := "") (Or.inl (W 54 rfl)) Via.refl eq106 (O_kn.ext O105.2) (g := (mkF m 90 #[.val (.int p0), .val (.int p1), .val (.int p2), .val (.ref b94), .val (.int (p2 &&& (3 : Int32))), .val (.ref a102), .val (.ref b_104)] [(.ref kn)])) rfl (hb hby at_90)
  obtain ⟨cq108, kq108, q108a, q108b, q108c⟩ := isOf hZ102 e107 f104_1
  -- pc 98: com/example/clauses_to_controls/clausestocontrols/service/DependencyFinding.component
  obtain ⟨_, _, ⟨T108, L108, k108, n108⟩, -, X108, ⟨Lc108, hQ108, l108, y108, z108⟩, st108⟩ := X107.virtualBack hx (y := y6) (z := y6) hw102 (mvT hZ102 (W 55 rfl)) (mvT hZ102 (W 56 rfl)) (notFace_of_selects (args := #[]) (mvT hZ102 (W 58 rfl))) (mvT hZ102 (W 58 rfl)) (mvT hZ102 (W 57 rfl)) (by decide) (backOf (W := 0) (rmG_DependencyFinding_component l Z a0 G1 kn hG [] b_104 (.ref a102) T104.heap n0 Z105 O105 f104_3 rfl) hZ102 (W 59 rfl) (W 32 rfl) (by decide) (by decide)) q108a q108c (g := (mkF m 98 #[.val (.int p0), .val (.int p1), .val (.int p2), .val (.ref b94), .val (.int (p2 &&& (3 : Int32))), .val (.ref a102), .val (.ref b_104)] [(.ref b_104)])) rfl (by rw [hml]; rfl) (Steps.refl _) (argsL := []) (rest := []) (lenOf pd___Ljava_lang_String_ rfl) rfl (by show 2 * 0 + _ ≤ _; exact Nat.le_of_eq rfl) (hb hby at_98) (fun _ _ => ⟨rfl, e107, (by decide : 4 + 0 ≤ _), (by decide : 9 + 0 ≤ _)⟩)
  dsimp only [Pt.U, Pt.locs, Pt.cells, Pt.slots] at X108 l108 y108 z108 st108 hQ108
  subst l108 y108 z108
  obtain ⟨rfl, N108q, eq108⟩ := hQ108
  have N108 := Fr.app N106 N108q
  obtain ⟨fs, hr, hrun, hended, hend⟩ := Jvm.Stand.leaveW (v := some (.int (1 : Int32))) X108 hS102 (by rw [eq108]; exact hk105) (fun h => by rw [Bd.returns] at h; cases h)
  have hFin := R105.trans (CHv.at X108 hZ102 hEL R105.1)
  refine ⟨_, _, pre0 _ ?_, hrun, hended, _, _, rfl, ?_, ?_, own_mono hend (Nat.le_of_ble_eq_true rfl) (Nat.le_of_ble_eq_true rfl)⟩
  · show Steps p.tables e below (s₁.setTop (mkF m 0 #[.val (.int p0), .val (.int p1), .val (.int p2), .unset, .unset, .unset, .unset] [])) _
    refine XS.iconst X0.here hx rfl (hb hby at_0) ?_
    show Steps p.tables e below (s₁.setTop (mkF m 1 #[.val (.int p0), .val (.int p1), .val (.int p2), .unset, .unset, .unset, .unset] [(.int (2 : Int32))])) _
    refine st94 _ ?_
    show Steps p.tables e below (T94.setTop (mkF m 3 #[.val (.int p0), .val (.int p1), .val (.int p2), .unset, .unset, .unset, .unset] [(.ref b94)])) _
    refine XS.astoreN X94.here hx rfl (hb hby at_3) rfl rfl (l' := #[.val (.int p0), .val (.int p1), .val (.int p2), .val (.ref b94), .unset, .unset, .unset]) rfl ?_
    show Steps p.tables e below (T94.setTop (mkF m 4 #[.val (.int p0), .val (.int p1), .val (.int p2), .val (.ref b94), .unset, .unset, .unset] [])) _
    refine XS.aloadN X94.here hx rfl (hb hby at_4) rfl rfl ?_
    show Steps p.tables e below (T94.setTop (mkF m 5 #[.val (.int p0), .val (.int p1), .val (.int p2), .val (.ref b94), .unset, .unset, .unset] [(.ref b94)])) _
    refine XS.iconst X94.here hx rfl (hb hby at_5) ?_
    show Steps p.tables e below (T94.setTop (mkF m 6 #[.val (.int p0), .val (.int p1), .val (.int p2), .val (.ref b94), .unset, .unset, .unset] [(.int (0 : Int32)), (.ref b94)])) _
    refine XS.iloadN X94.here hx rfl (hb hby at_6) rfl ?_
    show Steps p.tables e below (T94.setTop (mkF m 7 #[.val (.int p0), .val (.int p1), .val (.int p2), .val (.ref b94), .unset, .unset, .unset] [(.int p0), (.int (0 : Int32)), (.ref b94)])) _
    refine XS.sipush X94.here hx rfl (hb hby at_7) ?_
    show Steps p.tables e below (T94.setTop (mkF m 10 #[.val (.int p0), .val (.int p1), .val (.int p2), .val (.ref b94), .unset, .unset, .unset] [(.int (255 : Int32)), (.int p0), (.int (0 : Int32)), (.ref b94)])) _
    refine XS.iand X94.here hx rfl (hb hby at_10) rfl ?_
    show Steps p.tables e below (T94.setTop (mkF m 11 #[.val (.int p0), .val (.int p1), .val (.int p2), .val (.ref b94), .unset, .unset, .unset] [(.int (p0 &&& (255 : Int32))), (.int (0 : Int32)), (.ref b94)])) _
    refine XS.i2c X94.here hx rfl (hb hby at_11) rfl ?_
    show Steps p.tables e below (T94.setTop (mkF m 12 #[.val (.int p0), .val (.int p1), .val (.int p2), .val (.ref b94), .unset, .unset, .unset] [(.int ((p0 &&& (255 : Int32)).toUInt32.toUInt16.toUInt32.toInt32)), (.int (0 : Int32)), (.ref b94)])) _
    refine st97 _ ?_
    show Steps p.tables e below (T97.setTop (mkF m 13 #[.val (.int p0), .val (.int p1), .val (.int p2), .val (.ref b94), .unset, .unset, .unset] [])) _
    refine XS.aloadN X97.here hx rfl (hb hby at_13) rfl rfl ?_
    show Steps p.tables e below (T97.setTop (mkF m 14 #[.val (.int p0), .val (.int p1), .val (.int p2), .val (.ref b94), .unset, .unset, .unset] [(.ref b94)])) _
    refine XS.iconst X97.here hx rfl (hb hby at_14) ?_
    show Steps p.tables e below (T97.setTop (mkF m 15 #[.val (.int p0), .val (.int p1), .val (.int p2), .val (.ref b94), .unset, .unset, .unset] [(.int (1 : Int32)), (.ref b94)])) _
    refine XS.iloadN X97.here hx rfl (hb hby at_15) rfl ?_
    show Steps p.tables e below (T97.setTop (mkF m 16 #[.val (.int p0), .val (.int p1), .val (.int p2), .val (.ref b94), .unset, .unset, .unset] [(.int p1), (.int (1 : Int32)), (.ref b94)])) _
    refine XS.sipush X97.here hx rfl (hb hby at_16) ?_
    show Steps p.tables e below (T97.setTop (mkF m 19 #[.val (.int p0), .val (.int p1), .val (.int p2), .val (.ref b94), .unset, .unset, .unset] [(.int (255 : Int32)), (.int p1), (.int (1 : Int32)), (.ref b94)])) _
    refine XS.iand X97.here hx rfl (hb hby at_19) rfl ?_
    show Steps p.tables e below (T97.setTop (mkF m 20 #[.val (.int p0), .val (.int p1), .val (.int p2), .val (.ref b94), .unset, .unset, .unset] [(.int (p1 &&& (255 : Int32))), (.int (1 : Int32)), (.ref b94)])) _
    refine XS.i2c X97.here hx rfl (hb hby at_20) rfl ?_
    show Steps p.tables e below (T97.setTop (mkF m 21 #[.val (.int p0), .val (.int p1), .val (.int p2), .val (.ref b94), .unset, .unset, .unset] [(.int ((p1 &&& (255 : Int32)).toUInt32.toUInt16.toUInt32.toInt32)), (.int (1 : Int32)), (.ref b94)])) _
    refine st100 _ ?_
    show Steps p.tables e below (T100.setTop (mkF m 22 #[.val (.int p0), .val (.int p1), .val (.int p2), .val (.ref b94), .unset, .unset, .unset] [])) _
    refine XS.iloadN X100.here hx rfl (hb hby at_22) rfl ?_
    show Steps p.tables e below (T100.setTop (mkF m 23 #[.val (.int p0), .val (.int p1), .val (.int p2), .val (.ref b94), .unset, .unset, .unset] [(.int p2)])) _
    refine XS.iconst X100.here hx rfl (hb hby at_23) ?_
    show Steps p.tables e below (T100.setTop (mkF m 24 #[.val (.int p0), .val (.int p1), .val (.int p2), .val (.ref b94), .unset, .unset, .unset] [(.int (3 : Int32)), (.int p2)])) _
    refine XS.iand X100.here hx rfl (hb hby at_24) rfl ?_
    show Steps p.tables e below (T100.setTop (mkF m 25 #[.val (.int p0), .val (.int p1), .val (.int p2), .val (.ref b94), .unset, .unset, .unset] [(.int (p2 &&& (3 : Int32)))])) _
    refine XS.istore X100.here hx rfl (hb hby at_25) rfl (l' := #[.val (.int p0), .val (.int p1), .val (.int p2), .val (.ref b94), .val (.int (p2 &&& (3 : Int32))), .unset, .unset]) rfl ?_
    show Steps p.tables e below (T100.setTop (mkF m 27 #[.val (.int p0), .val (.int p1), .val (.int p2), .val (.ref b94), .val (.int (p2 &&& (3 : Int32))), .unset, .unset] [])) _
    refine XS.iload X100.here hx rfl (hb hby at_27) rfl ?_
    show Steps p.tables e below (T100.setTop (mkF m 29 #[.val (.int p0), .val (.int p1), .val (.int p2), .val (.ref b94), .val (.int (p2 &&& (3 : Int32))), .unset, .unset] [(.int (p2 &&& (3 : Int32)))])) _
    refine XS.ifYes X100.here hx rfl (pc0 := 29) (pc' := 38) rfl (hb hby at_29) rfl ((if0 _ _).trans (feq (hc29 : ¬ ((p2 &&& (3 : Int32)) = (0 : Int32)))).2) (by decide) (by decide) ?_
    show Steps p.tables e below (T100.setTop (mkF m 38 #[.val (.int p0), .val (.int p1), .val (.int p2), .val (.ref b94), .val (.int (p2 &&& (3 : Int32))), .unset, .unset] [])) _
    refine XS.iload X100.here hx rfl (hb hby at_38) rfl ?_
    show Steps p.tables e below (T100.setTop (mkF m 40 #[.val (.int p0), .val (.int p1), .val (.int p2), .val (.ref b94), .val (.int (p2 &&& (3 : Int32))), .unset, .unset] [(.int (p2 &&& (3 : Int32)))])) _
    refine XS.iconst X100.here hx rfl (hb hby at_40) ?_
    show Steps p.tables e below (T100.setTop (mkF m 41 #[.val (.int p0), .val (.int p1), .val (.int p2), .val (.ref b94), .val (.int (p2 &&& (3 : Int32))), .unset, .unset] [(.int (1 : Int32)), (.int (p2 &&& (3 : Int32)))])) _
    refine XS.icmpYes X100.here hx rfl (pc0 := 41) (pc' := 55) rfl (hb hby at_41) rfl (feq (hc41 : ¬ ((p2 &&& (3 : Int32)) = (1 : Int32)))).2 (by decide) (by decide) ?_
    show Steps p.tables e below (T100.setTop (mkF m 55 #[.val (.int p0), .val (.int p1), .val (.int p2), .val (.ref b94), .val (.int (p2 &&& (3 : Int32))), .unset, .unset] [])) _
    refine XS.iload X100.here hx rfl (hb hby at_55) rfl ?_
    show Steps p.tables e below (T100.setTop (mkF m 57 #[.val (.int p0), .val (.int p1), .val (.int p2), .val (.ref b94), .val (.int (p2 &&& (3 : Int32))), .unset, .unset] [(.int (p2 &&& (3 : Int32)))])) _
    refine XS.iconst X100.here hx rfl (hb hby at_57) ?_
    show Steps p.tables e below (T100.setTop (mkF m 58 #[.val (.int p0), .val (.int p1), .val (.int p2), .val (.ref b94), .val (.int (p2 &&& (3 : Int32))), .unset, .unset] [(.int (2 : Int32)), (.int (p2 &&& (3 : Int32)))])) _
    refine XS.icmpYes X100.here hx rfl (pc0 := 58) (pc' := 74) rfl (hb hby at_58) rfl (feq (hc58 : ¬ ((p2 &&& (3 : Int32)) = (2 : Int32)))).2 (by decide) (by decide) ?_
    show Steps p.tables e below (T100.setTop (mkF m 74 #[.val (.int p0), .val (.int p1), .val (.int p2), .val (.ref b94), .val (.int (p2 &&& (3 : Int32))), .unset, .unset] [])) _
    refine st102 _ ?_
    show Steps p.tables e below (T102.setTop (mkF m 76 #[.val (.int p0), .val (.int p1), .val (.int p2), .val (.ref b94), .val (.int (p2 &&& (3 : Int32))), .unset, .unset] [(.ref a102)])) _
    refine XS.astore X102.here hx rfl (hb hby at_76) rfl rfl (l' := #[.val (.int p0), .val (.int p1), .val (.int p2), .val (.ref b94), .val (.int (p2 &&& (3 : Int32))), .val (.ref a102), .unset]) rfl ?_
    show Steps p.tables e below (T102.setTop (mkF m 78 #[.val (.int p0), .val (.int p1), .val (.int p2), .val (.ref b94), .val (.int (p2 &&& (3 : Int32))), .val (.ref a102), .unset] [])) _
    refine XS.aload X102.here hx rfl (hb hby at_78) rfl rfl ?_
    show Steps p.tables e below (T102.setTop (mkF m 80 #[.val (.int p0), .val (.int p1), .val (.int p2), .val (.ref b94), .val (.int (p2 &&& (3 : Int32))), .val (.ref a102), .unset] [(.ref a102)])) _
    refine st104 _ ?_
    show Steps p.tables e below (T104.setTop (mkF m 83 #[.val (.int p0), .val (.int p1), .val (.int p2), .val (.ref b94), .val (.int (p2 &&& (3 : Int32))), .val (.ref a102), .unset] [(.ref b_104)])) _
    refine XS.astore X104.here hx rfl (hb hby at_83) rfl rfl (l' := #[.val (.int p0), .val (.int p1), .val (.int p2), .val (.ref b94), .val (.int (p2 &&& (3 : Int32))), .val (.ref a102), .val (.ref b_104)]) rfl ?_
    show Steps p.tables e below (T104.setTop (mkF m 85 #[.val (.int p0), .val (.int p1), .val (.int p2), .val (.ref b94), .val (.int (p2 &&& (3 : Int32))), .val (.ref a102), .val (.ref b_104)] [])) _
    refine XS.aload X104.here hx rfl (hb hby at_85) rfl rfl ?_
    show Steps p.tables e below (T104.setTop (mkF m 87 #[.val (.int p0), .val (.int p1), .val (.int p2), .val (.ref b94), .val (.int (p2 &&& (3 : Int32))), .val (.ref a102), .val (.ref b_104)] [(.ref b_104)])) _
    refine st106.trans ?_
    show Steps p.tables e below (T106.setTop (mkF m 90 #[.val (.int p0), .val (.int p1), .val (.int p2), .val (.ref b94), .val (.int (p2 &&& (3 : Int32))), .val (.ref a102), .val (.ref b_104)] [(.ref kn)])) _
    refine st107 _ ?_
    show Steps p.tables e below (T107.setTop (mkF m 93 #[.val (.int p0), .val (.int p1), .val (.int p2), .val (.ref b94), .val (.int (p2 &&& (3 : Int32))), .val (.ref a102), .val (.ref b_104)] [(.ref kn), (.ref kn)])) _
    refine Jvm.RoadKit.acmp (g := (mkF m 93 #[.val (.int p0), .val (.int p1), .val (.int p2), .val (.ref b94), .val (.int (p2 &&& (3 : Int32))), .val (.ref a102), .val (.ref b_104)] [(.ref kn), (.ref kn)])) X107 hx rfl rfl rfl (pc0 := 93) (pc' := 96) (same := true) rfl (hb hby at_93) rfl (decide_eq_true rfl) (by decide) (by decide) ?_
    show Steps p.tables e below (T107.setTop (mkF m 96 #[.val (.int p0), .val (.int p1), .val (.int p2), .val (.ref b94), .val (.int (p2 &&& (3 : Int32))), .val (.ref a102), .val (.ref b_104)] [])) _
    refine XS.aload X107.here hx rfl (hb hby at_96) rfl rfl ?_
    show Steps p.tables e below (T107.setTop (mkF m 98 #[.val (.int p0), .val (.int p1), .val (.int p2), .val (.ref b94), .val (.int (p2 &&& (3 : Int32))), .val (.ref a102), .val (.ref b_104)] [(.ref b_104)])) _
    refine st108.trans ?_
    show Steps p.tables e below (T108.setTop (mkF m 101 #[.val (.int p0), .val (.int p1), .val (.int p2), .val (.ref b94), .val (.int (p2 &&& (3 : Int32))), .val (.ref a102), .val (.ref b_104)] [(.ref a102)])) _
    refine XS.aload X108.here hx rfl (hb hby at_101) rfl rfl ?_
    show Steps p.tables e below (T108.setTop (mkF m 103 #[.val (.int p0), .val (.int p1), .val (.int p2), .val (.ref b94), .val (.int (p2 &&& (3 : Int32))), .val (.ref a102), .val (.ref b_104)] [(.ref a102), (.ref a102)])) _
    refine Jvm.RoadKit.acmp (g := (mkF m 103 #[.val (.int p0), .val (.int p1), .val (.int p2), .val (.ref b94), .val (.int (p2 &&& (3 : Int32))), .val (.ref a102), .val (.ref b_104)] [(.ref a102), (.ref a102)])) X108 hx rfl rfl rfl (pc0 := 103) (pc' := 106) (same := true) rfl (hb hby at_103) rfl (decide_eq_true rfl) (by decide) (by decide) ?_
    show Steps p.tables e below (T108.setTop (mkF m 106 #[.val (.int p0), .val (.int p1), .val (.int p2), .val (.ref b94), .val (.int (p2 &&& (3 : Int32))), .val (.ref a102), .val (.ref b_104)] [])) _
    refine XS.iconst X108.here hx rfl (hb hby at_106) ?_
    show Steps p.tables e below (T108.setTop (mkF m 107 #[.val (.int p0), .val (.int p1), .val (.int p2), .val (.ref b94), .val (.int (p2 &&& (3 : Int32))), .val (.ref a102), .val (.ref b_104)] [(.int (1 : Int32))])) _
    refine XS.goto X108.here hx rfl (pc0 := 107) (pc' := 111) rfl (hb hby at_107) (by decide) (by decide) ?_
    show Steps p.tables e below (T108.setTop (mkF m 111 #[.val (.int p0), .val (.int p1), .val (.int p2), .val (.ref b94), .val (.int (p2 &&& (3 : Int32))), .val (.ref a102), .val (.ref b_104)] [(.int (1 : Int32))])) _
    exact retN X108 hx (t := .boolean) Bd.returns (by simp) (hb hby at_111) hr
  · show Q0 Z G1 kn p0 p1 p2 h0 n0 _ T108.heap _
    rw [eq108]
    exact ⟨rfl, N108, K0_105⟩
  · show CHr Z own_EL s.vm s.heap T108.vm T108.heap
    rw [hh, eq108]
    exact hFin
set_option maxRecDepth 65536 in
theorem rm0 (l : Launch) (Z : State) (a0 : Array Value) (G1 : Int32) (kn : Addr) (hG : Glob Z a0 G1 kn) (ws : List Jvm.Cond) (p0 : Int32) (p1 : Int32) (p2 : Int32) (h0 : Heap) (n0 : Nat) (Z0 : n0 ≤ h0.size) (X00 : Old Z n0 h0) :
    MetFree l x (head1 (Jvm.Cond.code x code maxLocals ret :: ws) room_1) (fun a U => a = #[(.int p0), (.int p1), (.int p2)] ∧ Z.Warmed39 U.vm ∧ U.heap = h0 ∧ CHv Z own_EL U.vm h0) (fun _ _ _ _ _ => True) (fun _ U o U' => ∃ v L, o = .returned v ∧ Q0 Z G1 kn p0 p1 p2 h0 n0 v U'.heap L ∧ CHr Z own_EL U.vm U.heap U'.vm U'.heap ∧ ReturnedEndW U o U' L room_1.cells room_1.slots) := by
  by_cases hq0 : (p2 &&& (3 : Int32)) = (0 : Int32)
  · exact rm0_0 l Z a0 G1 kn hG ws p0 p1 p2 h0 n0 Z0 X00 hq0
  by_cases hq1 : (p2 &&& (3 : Int32)) = (1 : Int32)
  · exact rm0_1 l Z a0 G1 kn hG ws p0 p1 p2 h0 n0 Z0 X00 hq0 hq1
  by_cases hq2 : (p2 &&& (3 : Int32)) = (2 : Int32)
  · exact rm0_2 l Z a0 G1 kn hG ws p0 p1 p2 h0 n0 Z0 X00 hq0 hq1 hq2
  exact rm0_3 l Z a0 G1 kn hG ws p0 p1 p2 h0 n0 Z0 X00 hq0 hq1 hq2
set_option maxRecDepth 65536 in
set_option maxHeartbeats 40000000 in
theorem comes_1 {Post : Tables → Env → Array Value → State → Outcome → State → Prop} (hpost : ∀ tb e args s v u, (limb_1_1.after args s (.returned v) u = true ∧ limb_1_2.after args s (.returned v) u = true ∧ True) → ReturnedEndW s (.returned v) u (Jvm.fieldLocs frame_1_writes args s ++ Jvm.arrayLocs frame_1_arrays args s ++ Jvm.staticLocs frame_1_statics s) 24 1152 → Post tb e args s (.returned v) u) :
    ArmFor flags0 classFile x code maxLocals ret World_1 tables_1 room_1 Calls_1 rest_1 Pre_1 Post := by
  intro l hfl _ _ p e ha hc hk s m args below hf hA hF happ hP
  obtain ⟨hcalls, hrest, hpre⟩ := hP
  obtain ⟨-, -, -, hnamed, -, -, -, hat⟩ := (Spec.applies_iff hf).mp happ
  obtain ⟨hg, hn⟩ := and_e (Cond.before_iff.mp (show (Jvm.Cond.and given_1 narrow_1).before args s = true from hpre))
  obtain ⟨gc, gr0⟩ := and_e hg
  obtain ⟨ga0, gr1⟩ := and_e gr0
  obtain ⟨ga1, gr2⟩ := and_e gr1
  obtain ⟨w0, w1, w2, rfl⟩ : ∃ w0 w1 w2 : Value, args = #[w0, w1, w2] := by
    have hs : args.size = 3 := by simpa [Cond.value, given_1] using gc
    obtain ⟨L⟩ := args
    match L, hs with
    | [w0, w1, w2], _ => exact ⟨w0, w1, w2, rfl⟩
  have hw := fun d (hd : d ∈ tables_1) => atoms_spec (ws := Jvm.Cond.code x code maxLocals ret :: tables_1) hat d (List.mem_cons_of_mem _ hd)
  have hfit : Fit s := fun {y c} hc i hi => by
    obtain ⟨ha, rfl⟩ := Array.getElem?_eq_some_iff.mp hc
    have q := List.all_eq_true.mp ((Array.all_eq_true_iff_forall_mem.mp hF) _ (Array.getElem_mem ha)) i (List.mem_range.mpr hi)
    simpa [Array.getElem?_eq_getElem hi] using q
  obtain ⟨hsets, hown0⟩ := atoms_of _ (rest_1_c_eq ▸ (show rest_1_c.before _ s = true from hrest))
  obtain ⟨i0, ei0⟩ := is_v ga0
  obtain rfl : w0 = (.int i0) := Option.some.inj ei0
  obtain ⟨i1, ei1⟩ := is_v ga1
  obtain rfl : w1 = (.int i1) := Option.some.inj ei1
  obtain ⟨i2, ei2⟩ := is_v gr2
  obtain rfl : w2 = (.int i2) := Option.some.inj ei2
  have W : ∀ (i : Nat) {d : Jvm.Cond}, tables_1[i]? = some d → d.before _ s = true := fun i d h => hw d (List.mem_of_getElem? h)
  obtain ⟨G, eG⟩ := is_v (Cond.before_iff.mp (hsets _ (List.mem_of_getElem? (i := 1) rfl)))
  have nG := not_v (Cond.before_iff.mp (hsets _ (List.mem_of_getElem? (i := 2) rfl)))
  have SG : Sta s s.heap "java/lang/String" "COMPACT_STRINGS" "Z" (.int G) := Sta.start eG (Or.inl (hsets _ (List.mem_of_getElem? (i := 0) rfl)))
  have cG : ¬ (G = (0 : Int32)) := gotF (Cond.eq_ints eG (Term.int_eval (0))) nG
  obtain ⟨kn, ck, cellk, kk, ek, -⟩ := Cond.exactly_spec (Cond.before_iff.mpr hn)
  have Sk : Sta s s.heap "com/example/clauses_to_controls/clausestocontrols/service/DependencyFinding$Kind" "NO_DATA" "Lcom/example/clauses_to_controls/clausestocontrols/service/DependencyFinding$Kind;" (.ref kn) := Sta.start ek (Or.inr ⟨(W 37 rfl), (W 38 rfl)⟩)
  have hG : Glob s _ G kn := ⟨hw, SG, cG, Sk⟩
  have hCH : CHv s own_EL s.vm s.heap := fun _ hp => nomatch hp
  obtain ⟨n, o, h1, h2, h3, _, L, rfl, ⟨rfl, N, -⟩, -, hq⟩ := rm0 l s _ G kn hG tables_1 i0 i1 i2 s.heap s.heap.size (Nat.le_refl _) (Old.start s) p e ha hc hk s m _ below hf ((Spec.applies_iff_loose hf).mp happ).1 ⟨rfl, State.Warmed39.refl s, rfl, hCH⟩ trivial
  refine ⟨n, _, h1, h2, h3, hpost _ _ _ _ _ _ ⟨Cond.after_iff.mpr rfl, Cond.after_iff.mpr (eq_i res_at (Term.int_eval (1)) rfl), trivial⟩ ⟨hq.1, hq.2.1, hq.2.2.1, (hq.2.2.2.sift fun y hy => Or.inr (N y hy)).mono (by decide) (by decide)⟩⟩
theorem main_1_1 : Claimed_1_1 := comes_1 fun _ _ _ _ _ _ h hF => ⟨h.1, hF⟩
theorem main_1_2 : Claimed_1_2 := comes_1 fun _ _ _ _ _ _ h hF => ⟨h.2.1, hF⟩
end Jvm.Pilot.@@N@@
namespace Jvm.Pilot.@@N@@
open Jvm Jvm.ClassFile Sem Op Lib Jvm.Free Jvm.Stand Jvm.Pilot.@@N@@.Jvm.D
/-! MADE BY PROGRAM (witnessworld.py) out of the Statement's table words and the real class files: 22 classes; the members and pool entries that the words name. The judged class is class 1, her method 1. -/
namespace start1
open Jvm.ClassFile
def u (s : String) : CpInfo := .utf8 (stringToUtf16 s)
/-- a pool by its gaps: so many unusable entries, then the entry; so many at the end -/
def gap : Nat → List CpInfo → List CpInfo
  | 0, r => r
  | n + 1, r => .unusable :: gap n r
def poolList (es : List (Nat × CpInfo)) (last : Nat) : List CpInfo := es.foldr (fun e r => gap e.1 (e.2 :: r)) (gap last [])
def pool (es : List (Nat × CpInfo)) (last : Nat) : Array CpInfo := ⟨poolList es last⟩
def fileOf (pool : Array CpInfo) (this : Nat) (attrs : Array Attribute := #[]) (ms : Array MethodInfo := #[]) (fl : Nat := 33) (sup : Nat := 0) (ifs : Array Nat := #[]) (fds : Array FieldInfo := #[]) : ClassFile where
  minorVersion := 0
  majorVersion := 65
  constantPool := pool
  accessFlags := fl
  thisClass := this
  superClass := sup
  interfaces := ifs
  fields := fds
  methods := ms
  attributes := attrs
def plain (name : String) (sup : Option ClassId) : Class where
  name := name
  kind := .ordinary
  loader := none
  accessFlags := 33
  super := sup
  interfaces := #[]
  cf := none
  fields := #[]
  methods := #[]
  instanceTypes := #[]
  staticTypes := #[]
  resolved := #[]
  callSites := []
  init := .initialized
  statics := none
  mirror := none

def pool0 : Array CpInfo := pool [(5, u "<init>"), (0, u "()V"), (1, .class_ 10), (1, u "java/lang/Object")] 113

def k0c0 : Code := { maxStack := 0, maxLocals := 1, code := object_method_1_code, exceptionTable := #[], attributes := #[] }
def k0m0 : Method := { name := "<init>", desc := "()V", sig := { parameters := [], returnType := none }, accessFlags := 1, code := some k0c0 }
/-- java/lang/Object -/
def k0 : Class := { plain "java/lang/Object" none with
  accessFlags := 33
  interfaces := #[]
  cf := some (fileOf pool0 8 #[] #[{ accessFlags := 1, nameIndex := 5, descriptorIndex := 6, attributes := #[] }] 33 0 #[] #[])
  fields := #[]
  methods := #[k0m0]
  instanceTypes := #[]
  staticTypes := #[]
  resolved := Array.replicate 124 none
  statics := none }

def pool1 : Array CpInfo := pool [(2, .class_ 4), (1, u "java/lang/Object"), (0, u "<init>"), (0, u "()V"), (0, .methodref 8 9), (0, .class_ 10), (0, .nameAndType 11 12), (0, u "java/lang/String"), (0, u "valueOf"), (0, u "(C)Ljava/lang/String;"), (0, .methodref 8 14), (0, .nameAndType 5 15), (0, u "([C)V"), (0, .string 17), (0, u ""), (0, .methodref 19 20), (0, .class_ 21), (0, .nameAndType 22 23), (0, u "com/example/clauses_to_controls/clausestocontrols/service/DependencyFinding"), (0, u "noData"), (0, u "(Ljava/lang/String;)Lcom/example/clauses_to_controls/clausestocontrols/service/DependencyFinding;"), (0, .methodref 19 25), (0, .nameAndType 26 27), (0, u "kind"), (0, u "()Lcom/example/clauses_to_controls/clausestocontrols/service/DependencyFinding$Kind;"), (0, .fieldref 29 30), (0, .class_ 31), (0, .nameAndType 32 33), (0, u "com/example/clauses_to_controls/clausestocontrols/service/DependencyFinding$Kind"), (0, u "NO_DATA"), (0, u "Lcom/example/clauses_to_controls/clausestocontrols/service/DependencyFinding$Kind;"), (0, .methodref 19 35), (0, .nameAndType 36 37), (0, u "component"), (0, u "()Ljava/lang/String;"), (0, .class_ 39), (0, u "com/example/clauses_to_controls/clausestocontrols/service/DependencyFindingNoDataPinLaw"), (2, u "law"), (0, u "(III)Z")] 7

def k1m0 : Method := { name := "<init>", desc := "()V", sig := { parameters := [], returnType := none }, accessFlags := 2, code := none }
def k1c1 : Code := { maxStack := 4, maxLocals := 7, code := code, exceptionTable := #[], attributes := #[] }
def k1m1 : Method := { name := "law", desc := "(III)Z", sig := { parameters := [.int, .int, .int], returnType := some .boolean }, accessFlags := 9, code := some k1c1 }
/-- com/example/clauses_to_controls/clausestocontrols/service/DependencyFindingNoDataPinLaw -/
def k1 : Class := { plain "com/example/clauses_to_controls/clausestocontrols/service/DependencyFindingNoDataPinLaw" (some 0) with
  accessFlags := 49
  interfaces := #[]
  cf := some (fileOf pool1 38 #[] #[{ accessFlags := 2, nameIndex := 5, descriptorIndex := 6, attributes := #[] }, { accessFlags := 9, nameIndex := 42, descriptorIndex := 43, attributes := #[] }] 49 2 #[] #[])
  fields := #[]
  methods := #[k1m0, k1m1]
  instanceTypes := #[]
  staticTypes := #[]
  resolved := Array.replicate 51 none
  statics := none }

def pool2 : Array CpInfo := pool [(1, .class_ 2), (0, u "java/io/Serializable"), (0, .class_ 4), (0, u "java/lang/Object")] 2

/-- java/io/Serializable -/
def k2 : Class := { plain "java/io/Serializable" (some 0) with
  accessFlags := 1537
  interfaces := #[]
  cf := some (fileOf pool2 1 #[] #[] 1537 3 #[] #[])
  fields := #[]
  methods := #[]
  instanceTypes := #[]
  staticTypes := #[]
  resolved := Array.replicate 7 none
  statics := none }

def pool3 : Array CpInfo := pool [(1, .class_ 2), (0, u "java/lang/Comparable"), (0, .class_ 4), (0, u "java/lang/Object")] 7

/-- java/lang/Comparable -/
def k3 : Class := { plain "java/lang/Comparable" (some 0) with
  accessFlags := 1537
  interfaces := #[]
  cf := some (fileOf pool3 1 #[] #[] 1537 3 #[] #[])
  fields := #[]
  methods := #[]
  instanceTypes := #[]
  staticTypes := #[]
  resolved := Array.replicate 12 none
  statics := none }

def pool4 : Array CpInfo := pool [(2, .class_ 4), (1, u "java/lang/CharSequence"), (42, .class_ 48), (0, u "java/lang/CharSequence$1CodePointIterator"), (10, .class_ 60), (0, u "java/lang/CharSequence$1CharIterator"), (5, .class_ 67), (0, u "java/lang/Object")] 63

/-- java/lang/CharSequence -/
def k4 : Class := { plain "java/lang/CharSequence" (some 0) with
  accessFlags := 1537
  interfaces := #[]
  cf := some (fileOf pool4 2 #[.nestMembers #[47, 59]] #[] 1537 66 #[] #[])
  fields := #[]
  methods := #[]
  instanceTypes := #[]
  staticTypes := #[]
  resolved := Array.replicate 131 none
  statics := none }

def pool5 : Array CpInfo := pool [(1, .class_ 2), (0, u "java/lang/constant/Constable"), (0, .class_ 4), (0, u "java/lang/Object")] 6

/-- java/lang/constant/Constable -/
def k5 : Class := { plain "java/lang/constant/Constable" (some 0) with
  accessFlags := 1537
  interfaces := #[]
  cf := some (fileOf pool5 1 #[] #[] 1537 3 #[] #[])
  fields := #[]
  methods := #[]
  instanceTypes := #[]
  staticTypes := #[]
  resolved := Array.replicate 11 none
  statics := none }

def pool6 : Array CpInfo := pool [(1, .class_ 2), (0, u "java/lang/constant/ConstantDesc"), (0, .class_ 4), (0, u "java/lang/Object")] 32

/-- java/lang/constant/ConstantDesc -/
def k6 : Class := { plain "java/lang/constant/ConstantDesc" (some 0) with
  accessFlags := 1537
  interfaces := #[]
  cf := some (fileOf pool6 1 #[] #[] 1537 3 #[] #[])
  fields := #[]
  methods := #[]
  instanceTypes := #[]
  staticTypes := #[]
  resolved := Array.replicate 37 none
  statics := none }

def pool7 : Array CpInfo := pool [(1, .methodref 2 3), (0, .class_ 4), (0, .nameAndType 5 6), (0, u "java/lang/Object"), (0, u "<init>"), (0, u "()V"), (2, .fieldref 10 11), (0, .class_ 12), (0, .nameAndType 13 14), (0, u "java/lang/String"), (0, u "value"), (0, u "[B"), (0, .fieldref 10 16), (0, .nameAndType 17 18), (0, u "coder"), (0, u "B"), (2, u "hash"), (0, u "I"), (2, u "hashIsZero"), (0, u "Z"), (0, .methodref 10 28), (0, .nameAndType 5 29), (0, u "([CIILjava/lang/Void;)V"), (8, .fieldref 10 39), (0, .nameAndType 40 26), (0, u "COMPACT_STRINGS"), (1, .class_ 44), (1, u "java/lang/StringUTF16"), (0, u "compress"), (1, .methodref 42 48), (0, .nameAndType 49 50), (0, u "coderFromArrayLen"), (0, u "([BI)B"), (2, u "toBytes"), (53, .class_ 109), (1, u "java/lang/StringLatin1"), (67, .methodref 42 178), (0, .nameAndType 45 179), (0, u "([CII)[B"), (29, .methodref 10 210), (0, .nameAndType 5 211), (0, u "([BB)V"), (157, u "(C)Z"), (205, .class_ 576), (0, u "java/lang/CharSequence"), (22, u "CASE_INSENSITIVE_ORDER"), (0, u "Ljava/util/Comparator;"), (181, u "valueOf"), (0, u "(C)Ljava/lang/String;"), (226, u "([C)V"), (4, .methodref 107 1016), (0, .nameAndType 1017 369), (0, u "canEncode"), (0, .methodref 107 1019), (0, .nameAndType 53 1020), (0, u "(C)[B"), (80, u "serialPersistentFields"), (0, u "[Ljava/io/ObjectStreamField;"), (0, .class_ 1104), (0, u "java/lang/String$CaseInsensitiveComparator"), (1, .class_ 1107), (0, u "java/io/Serializable"), (0, .class_ 1109), (0, u "java/lang/Comparable"), (0, .class_ 1111), (0, u "java/lang/constant/Constable"), (0, .class_ 1113), (0, u "java/lang/constant/ConstantDesc"), (2, u "serialVersionUID"), (0, u "J"), (3, u "REPL"), (0, u "C"), (2, u "LATIN1"), (1, u "UTF16")] 323

def k7m0 : Method := { name := "<init>", desc := "()V", sig := { parameters := [], returnType := none }, accessFlags := 1, code := none }
def k7c1 : Code := { maxStack := 5, maxLocals := 2, code := jdk_42_method_3_code, exceptionTable := #[], attributes := #[] }
def k7m1 : Method := { name := "<init>", desc := "([C)V", sig := { parameters := [(.array .char)], returnType := none }, accessFlags := 1, code := some k7c1 }
def k7c2 : Code := { maxStack := 4, maxLocals := 1, code := jdk_42_method_139_code, exceptionTable := #[], attributes := #[] }
def k7m2 : Method := { name := "valueOf", desc := "(C)Ljava/lang/String;", sig := { parameters := [.char], returnType := some (.object "java/lang/String") }, accessFlags := 9, code := some k7c2 }
def k7c3 : Code := { maxStack := 4, maxLocals := 6, code := jdk_42_method_149_code, exceptionTable := #[], attributes := #[] }
def k7m3 : Method := { name := "<init>", desc := "([CIILjava/lang/Void;)V", sig := { parameters := [(.array .char), .int, .int, (.object "java/lang/Void")], returnType := none }, accessFlags := 2, code := some k7c3 }
def k7c4 : Code := { maxStack := 2, maxLocals := 3, code := jdk_42_method_151_code, exceptionTable := #[], attributes := #[] }
def k7m4 : Method := { name := "<init>", desc := "([BB)V", sig := { parameters := [(.array .byte), .byte], returnType := none }, accessFlags := 0, code := some k7c4 }
/-- java/lang/String -/
def k7 : Class := { plain "java/lang/String" (some 0) with
  accessFlags := 49
  interfaces := #[2, 3, 4, 5, 6]
  cf := some (fileOf pool7 10 #[.nestMembers #[1103]] #[{ accessFlags := 1, nameIndex := 5, descriptorIndex := 6, attributes := #[] }, { accessFlags := 1, nameIndex := 5, descriptorIndex := 1010, attributes := #[] }, { accessFlags := 9, nameIndex := 782, descriptorIndex := 783, attributes := #[] }, { accessFlags := 2, nameIndex := 5, descriptorIndex := 29, attributes := #[] }, { accessFlags := 0, nameIndex := 5, descriptorIndex := 211, attributes := #[] }] 49 2 #[1106, 1108, 575, 1110, 1112] #[{ accessFlags := 18, nameIndex := 13, descriptorIndex := 14, attributes := #[] }, { accessFlags := 18, nameIndex := 17, descriptorIndex := 18, attributes := #[] }, { accessFlags := 2, nameIndex := 21, descriptorIndex := 22, attributes := #[] }, { accessFlags := 2, nameIndex := 25, descriptorIndex := 26, attributes := #[] }, { accessFlags := 26, nameIndex := 1116, descriptorIndex := 1117, attributes := #[] }, { accessFlags := 24, nameIndex := 40, descriptorIndex := 26, attributes := #[] }, { accessFlags := 26, nameIndex := 1101, descriptorIndex := 1102, attributes := #[] }, { accessFlags := 26, nameIndex := 1121, descriptorIndex := 1122, attributes := #[] }, { accessFlags := 25, nameIndex := 599, descriptorIndex := 600, attributes := #[] }, { accessFlags := 24, nameIndex := 1125, descriptorIndex := 18, attributes := #[] }, { accessFlags := 24, nameIndex := 1127, descriptorIndex := 18, attributes := #[] }])
  fields := #[{ name := "value", type := (.array .byte), accessFlags := 18, slot := 0, constantValue := 0 }, { name := "coder", type := .byte, accessFlags := 18, slot := 1, constantValue := 0 }, { name := "hash", type := .int, accessFlags := 2, slot := 2, constantValue := 0 }, { name := "hashIsZero", type := .boolean, accessFlags := 2, slot := 3, constantValue := 0 }, { name := "serialVersionUID", type := .long, accessFlags := 26, slot := 0, constantValue := 0 }, { name := "COMPACT_STRINGS", type := .boolean, accessFlags := 24, slot := 1, constantValue := 0 }, { name := "serialPersistentFields", type := (.array (.object "java/io/ObjectStreamField")), accessFlags := 26, slot := 2, constantValue := 0 }, { name := "REPL", type := .char, accessFlags := 26, slot := 3, constantValue := 0 }, { name := "CASE_INSENSITIVE_ORDER", type := (.object "java/util/Comparator"), accessFlags := 25, slot := 4, constantValue := 0 }, { name := "LATIN1", type := .byte, accessFlags := 24, slot := 5, constantValue := 0 }, { name := "UTF16", type := .byte, accessFlags := 24, slot := 6, constantValue := 0 }]
  methods := #[k7m0, k7m1, k7m2, k7m3, k7m4]
  instanceTypes := #[(.array .byte), .byte, .int, .boolean]
  staticTypes := #[.long, .boolean, (.array (.object "java/io/ObjectStreamField")), .char, (.object "java/util/Comparator"), .byte, .byte]
  resolved := Array.replicate 1451 none
  statics := some 0 }

def pool8 : Array CpInfo := pool [(6, .class_ 8), (1, u "java/lang/Object"), (0, u "<init>"), (0, u "()V"), (1, .class_ 14), (1, u "java/lang/StringUTF16"), (31, u "$assertionsDisabled"), (0, u "Z"), (13, u "HI_BYTE_SHIFT"), (0, u "I"), (2, u "LO_BYTE_SHIFT"), (49, .methodref 12 116), (0, .nameAndType 117 118), (0, u "compress"), (0, u "([CI[BII)I"), (3, u "([CII)[B"), (138, u "coderFromArrayLen"), (0, u "([BI)B"), (106, .class_ 371), (1, u "java/lang/StringUTF16$LinesSpliterator"), (58, u "MAX_LENGTH"), (196, .class_ 628), (0, u "java/lang/StringUTF16$CodePointsSpliterator"), (0, .class_ 630), (0, u "java/lang/StringUTF16$CharsSpliterator")] 4

def k8m0 : Method := { name := "<init>", desc := "()V", sig := { parameters := [], returnType := none }, accessFlags := 0, code := none }
def k8c1 : Code := { maxStack := 2, maxLocals := 2, code := jdk_52_method_15_code, exceptionTable := #[], attributes := #[] }
def k8m1 : Method := { name := "coderFromArrayLen", desc := "([BI)B", sig := { parameters := [(.array .byte), .int], returnType := some .byte }, accessFlags := 8, code := some k8c1 }
def k8c2 : Code := { maxStack := 5, maxLocals := 6, code := jdk_52_method_16_code, exceptionTable := #[], attributes := #[] }
def k8m2 : Method := { name := "compress", desc := "([CII)[B", sig := { parameters := [(.array .char), .int, .int], returnType := some (.array .byte) }, accessFlags := 9, code := some k8c2 }
def k8c3 : Code := { maxStack := 3, maxLocals := 7, code := jdk_52_method_21_code, exceptionTable := #[], attributes := #[] }
def k8m3 : Method := { name := "compress", desc := "([CI[BII)I", sig := { parameters := [(.array .char), .int, (.array .byte), .int, .int], returnType := some .int }, accessFlags := 9, code := some k8c3 }
/-- java/lang/StringUTF16 -/
def k8 : Class := { plain "java/lang/StringUTF16" (some 0) with
  accessFlags := 48
  interfaces := #[]
  cf := some (fileOf pool8 12 #[.nestMembers #[627, 629, 369]] #[{ accessFlags := 0, nameIndex := 9, descriptorIndex := 10, attributes := #[] }, { accessFlags := 8, nameIndex := 261, descriptorIndex := 262, attributes := #[] }, { accessFlags := 9, nameIndex := 117, descriptorIndex := 122, attributes := #[] }, { accessFlags := 9, nameIndex := 117, descriptorIndex := 118, attributes := #[] }] 48 6 #[] #[{ accessFlags := 26, nameIndex := 61, descriptorIndex := 62, attributes := #[] }, { accessFlags := 26, nameIndex := 65, descriptorIndex := 62, attributes := #[] }, { accessFlags := 24, nameIndex := 430, descriptorIndex := 62, attributes := #[] }, { accessFlags := 4120, nameIndex := 46, descriptorIndex := 47, attributes := #[] }])
  fields := #[{ name := "HI_BYTE_SHIFT", type := .int, accessFlags := 26, slot := 0, constantValue := 0 }, { name := "LO_BYTE_SHIFT", type := .int, accessFlags := 26, slot := 1, constantValue := 0 }, { name := "MAX_LENGTH", type := .int, accessFlags := 24, slot := 2, constantValue := 0 }, { name := "$assertionsDisabled", type := .boolean, accessFlags := 4120, slot := 3, constantValue := 0 }]
  methods := #[k8m0, k8m1, k8m2, k8m3]
  instanceTypes := #[]
  staticTypes := #[.int, .int, .int, .boolean]
  resolved := Array.replicate 635 none
  statics := none }

def pool9 : Array CpInfo := pool [(1, .methodref 2 3), (0, .class_ 4), (0, .nameAndType 5 6), (0, u "java/lang/Object"), (0, u "<init>"), (0, u "()V"), (0, .fieldref 8 9), (0, .class_ 10), (0, .nameAndType 11 12), (0, u "com/example/clauses_to_controls/clausestocontrols/service/DependencyFinding"), (0, u "kind"), (0, u "Lcom/example/clauses_to_controls/clausestocontrols/service/DependencyFinding$Kind;"), (0, .fieldref 8 14), (0, .nameAndType 15 16), (0, u "component"), (0, u "Ljava/lang/String;"), (0, .fieldref 8 18), (0, .nameAndType 19 20), (0, u "group"), (0, u "Lcom/example/clauses_to_controls/clausestocontrols/model/DependencyGroup;"), (1, .class_ 24), (1, u "com/example/clauses_to_controls/clausestocontrols/service/DependencyFinding$Kind"), (1, .methodref 8 27), (0, .nameAndType 5 28), (0, u "(Lcom/example/clauses_to_controls/clausestocontrols/service/DependencyFinding$Kind;Ljava/lang/String;Lcom/example/clauses_to_controls/clausestocontrols/model/DependencyGroup;)V"), (0, .fieldref 22 30), (0, .nameAndType 31 12), (0, u "NO_DATA"), (19, u "noData"), (0, u "(Ljava/lang/String;)Lcom/example/clauses_to_controls/clausestocontrols/service/DependencyFinding;"), (0, u "()Lcom/example/clauses_to_controls/clausestocontrols/service/DependencyFinding$Kind;"), (0, u "()Ljava/lang/String;")] 21

def k9c0 : Code := { maxStack := 2, maxLocals := 4, code := prog_32_method_1_code, exceptionTable := #[], attributes := #[] }
def k9m0 : Method := { name := "<init>", desc := "(Lcom/example/clauses_to_controls/clausestocontrols/service/DependencyFinding$Kind;Ljava/lang/String;Lcom/example/clauses_to_controls/clausestocontrols/model/DependencyGroup;)V", sig := { parameters := [(.object "com/example/clauses_to_controls/clausestocontrols/service/DependencyFinding$Kind"), (.object "java/lang/String"), (.object "com/example/clauses_to_controls/clausestocontrols/model/DependencyGroup")], returnType := none }, accessFlags := 2, code := some k9c0 }
def k9c1 : Code := { maxStack := 5, maxLocals := 1, code := prog_32_method_3_code, exceptionTable := #[], attributes := #[] }
def k9m1 : Method := { name := "noData", desc := "(Ljava/lang/String;)Lcom/example/clauses_to_controls/clausestocontrols/service/DependencyFinding;", sig := { parameters := [(.object "java/lang/String")], returnType := some (.object "com/example/clauses_to_controls/clausestocontrols/service/DependencyFinding") }, accessFlags := 8, code := some k9c1 }
def k9c2 : Code := { maxStack := 1, maxLocals := 1, code := prog_32_method_4_code, exceptionTable := #[], attributes := #[] }
def k9m2 : Method := { name := "kind", desc := "()Lcom/example/clauses_to_controls/clausestocontrols/service/DependencyFinding$Kind;", sig := { parameters := [], returnType := some (.object "com/example/clauses_to_controls/clausestocontrols/service/DependencyFinding$Kind") }, accessFlags := 1, code := some k9c2 }
def k9c3 : Code := { maxStack := 1, maxLocals := 1, code := prog_32_method_5_code, exceptionTable := #[], attributes := #[] }
def k9m3 : Method := { name := "component", desc := "()Ljava/lang/String;", sig := { parameters := [], returnType := some (.object "java/lang/String") }, accessFlags := 1, code := some k9c3 }
/-- com/example/clauses_to_controls/clausestocontrols/service/DependencyFinding -/
def k9 : Class := { plain "com/example/clauses_to_controls/clausestocontrols/service/DependencyFinding" (some 0) with
  accessFlags := 49
  interfaces := #[]
  cf := some (fileOf pool9 8 #[.nestMembers #[22]] #[{ accessFlags := 2, nameIndex := 5, descriptorIndex := 28, attributes := #[] }, { accessFlags := 8, nameIndex := 51, descriptorIndex := 52, attributes := #[] }, { accessFlags := 1, nameIndex := 11, descriptorIndex := 53, attributes := #[] }, { accessFlags := 1, nameIndex := 15, descriptorIndex := 54, attributes := #[] }] 49 2 #[] #[{ accessFlags := 18, nameIndex := 11, descriptorIndex := 12, attributes := #[] }, { accessFlags := 18, nameIndex := 15, descriptorIndex := 16, attributes := #[] }, { accessFlags := 18, nameIndex := 19, descriptorIndex := 20, attributes := #[] }])
  fields := #[{ name := "kind", type := (.object "com/example/clauses_to_controls/clausestocontrols/service/DependencyFinding$Kind"), accessFlags := 18, slot := 0, constantValue := 0 }, { name := "component", type := (.object "java/lang/String"), accessFlags := 18, slot := 1, constantValue := 0 }, { name := "group", type := (.object "com/example/clauses_to_controls/clausestocontrols/model/DependencyGroup"), accessFlags := 18, slot := 2, constantValue := 0 }]
  methods := #[k9m0, k9m1, k9m2, k9m3]
  instanceTypes := #[(.object "com/example/clauses_to_controls/clausestocontrols/service/DependencyFinding$Kind"), (.object "java/lang/String"), (.object "com/example/clauses_to_controls/clausestocontrols/model/DependencyGroup")]
  staticTypes := #[]
  resolved := Array.replicate 76 none
  statics := none }

def pool10 : Array CpInfo := pool [(2, .class_ 4), (1, u "java/lang/Enum"), (0, u "name"), (0, u "Ljava/lang/String;"), (2, u "ordinal"), (0, u "I"), (1, .class_ 14), (1, u "java/lang/Object"), (4, u "hash"), (86, .class_ 108), (1, u "java/lang/Enum$EnumDesc"), (2, .class_ 112), (0, u "java/lang/constant/Constable"), (0, .class_ 114), (0, u "java/lang/Comparable"), (0, .class_ 116), (0, u "java/io/Serializable")] 87

/-- java/lang/Enum -/
def k10 : Class := { plain "java/lang/Enum" (some 0) with
  accessFlags := 1057
  interfaces := #[5, 3, 2]
  cf := some (fileOf pool10 2 #[.nestMembers #[106]] #[] 1057 12 #[111, 113, 115] #[{ accessFlags := 18, nameIndex := 5, descriptorIndex := 6, attributes := #[] }, { accessFlags := 18, nameIndex := 9, descriptorIndex := 10, attributes := #[] }, { accessFlags := 2, nameIndex := 19, descriptorIndex := 10, attributes := #[] }])
  fields := #[{ name := "name", type := (.object "java/lang/String"), accessFlags := 18, slot := 0, constantValue := 0 }, { name := "ordinal", type := .int, accessFlags := 18, slot := 1, constantValue := 0 }, { name := "hash", type := .int, accessFlags := 2, slot := 2, constantValue := 0 }]
  methods := #[]
  instanceTypes := #[(.object "java/lang/String"), .int, .int]
  staticTypes := #[]
  resolved := Array.replicate 204 none
  statics := none }

def pool11 : Array CpInfo := pool [(1, .class_ 2), (0, u "com/example/clauses_to_controls/clausestocontrols/service/DependencyFinding$Kind"), (2, u "UNMET"), (0, u "Lcom/example/clauses_to_controls/clausestocontrols/service/DependencyFinding$Kind;"), (2, u "NO_DATA"), (2, u "$VALUES"), (0, u "[Lcom/example/clauses_to_controls/clausestocontrols/service/DependencyFinding$Kind;"), (6, .class_ 22), (1, u "java/lang/Enum"), (25, .class_ 49), (0, u "com/example/clauses_to_controls/clausestocontrols/service/DependencyFinding")] 2

/-- com/example/clauses_to_controls/clausestocontrols/service/DependencyFinding$Kind -/
def k11 : Class := { plain "com/example/clauses_to_controls/clausestocontrols/service/DependencyFinding$Kind" (some 10) with
  accessFlags := 16433
  interfaces := #[]
  cf := some (fileOf pool11 1 #[.nestHost 48] #[] 16433 20 #[] #[{ accessFlags := 16409, nameIndex := 5, descriptorIndex := 6, attributes := #[] }, { accessFlags := 16409, nameIndex := 9, descriptorIndex := 6, attributes := #[] }, { accessFlags := 4122, nameIndex := 12, descriptorIndex := 13, attributes := #[] }])
  fields := #[{ name := "UNMET", type := (.object "com/example/clauses_to_controls/clausestocontrols/service/DependencyFinding$Kind"), accessFlags := 16409, slot := 0, constantValue := 0 }, { name := "NO_DATA", type := (.object "com/example/clauses_to_controls/clausestocontrols/service/DependencyFinding$Kind"), accessFlags := 16409, slot := 1, constantValue := 0 }, { name := "$VALUES", type := (.array (.object "com/example/clauses_to_controls/clausestocontrols/service/DependencyFinding$Kind")), accessFlags := 4122, slot := 2, constantValue := 0 }]
  methods := #[]
  instanceTypes := #[(.object "java/lang/String"), .int, .int]
  staticTypes := #[(.object "com/example/clauses_to_controls/clausestocontrols/service/DependencyFinding$Kind"), (.object "com/example/clauses_to_controls/clausestocontrols/service/DependencyFinding$Kind"), (.array (.object "com/example/clauses_to_controls/clausestocontrols/service/DependencyFinding$Kind"))]
  resolved := Array.replicate 52 none
  statics := some 1 }

def pool12 : Array CpInfo := pool [(4, .class_ 6), (1, u "java/lang/Object"), (0, u "<init>"), (0, u "()V"), (5, .class_ 16), (1, u "java/lang/StringLatin1"), (73, u "canEncode"), (14, u "(C)Z"), (15, u "$assertionsDisabled"), (0, u "Z"), (98, .class_ 223), (1, u "java/lang/StringLatin1$LinesSpliterator"), (156, u "toBytes"), (1, u "(C)[B"), (7, .class_ 391), (0, u "java/lang/StringLatin1$CharsSpliterator")] 3

def k12m0 : Method := { name := "<init>", desc := "()V", sig := { parameters := [], returnType := none }, accessFlags := 0, code := none }
def k12c1 : Code := { maxStack := 2, maxLocals := 1, code := jdk_43_method_3_code, exceptionTable := #[], attributes := #[] }
def k12m1 : Method := { name := "canEncode", desc := "(C)Z", sig := { parameters := [.char], returnType := some .boolean }, accessFlags := 9, code := some k12c1 }
def k12c2 : Code := { maxStack := 4, maxLocals := 1, code := jdk_43_method_46_code, exceptionTable := #[], attributes := #[] }
def k12m2 : Method := { name := "toBytes", desc := "(C)[B", sig := { parameters := [.char], returnType := some (.array .byte) }, accessFlags := 9, code := some k12c2 }
/-- java/lang/StringLatin1 -/
def k12 : Class := { plain "java/lang/StringLatin1" (some 0) with
  accessFlags := 48
  interfaces := #[]
  cf := some (fileOf pool12 14 #[.nestMembers #[390, 221]] #[{ accessFlags := 0, nameIndex := 7, descriptorIndex := 8, attributes := #[] }, { accessFlags := 9, nameIndex := 90, descriptorIndex := 105, attributes := #[] }, { accessFlags := 9, nameIndex := 380, descriptorIndex := 382, attributes := #[] }] 48 4 #[] #[{ accessFlags := 4120, nameIndex := 121, descriptorIndex := 122, attributes := #[] }])
  fields := #[{ name := "$assertionsDisabled", type := .boolean, accessFlags := 4120, slot := 0, constantValue := 0 }]
  methods := #[k12m0, k12m1, k12m2]
  instanceTypes := #[]
  staticTypes := #[.boolean]
  resolved := Array.replicate 395 none
  statics := none }

def pool13 : Array CpInfo := pool [(2, .class_ 4), (1, u "java/lang/Object"), (0, u "<init>"), (0, u "()V"), (17, .class_ 26), (1, u "jdk/internal/util/Preconditions"), (28, .class_ 56), (0, u "jdk/internal/util/Preconditions$4"), (57, .class_ 115), (0, u "jdk/internal/util/Preconditions$1"), (7, u "SIOOBE_FORMATTER"), (0, u "Ljava/util/function/BiFunction;"), (0, .class_ 126), (0, u "jdk/internal/util/Preconditions$2"), (3, u "AIOOBE_FORMATTER"), (0, .class_ 132), (0, u "jdk/internal/util/Preconditions$3"), (3, u "IOOBE_FORMATTER")] 57

def k13m0 : Method := { name := "<init>", desc := "()V", sig := { parameters := [], returnType := none }, accessFlags := 1, code := none }
/-- jdk/internal/util/Preconditions -/
def k13 : Class := { plain "jdk/internal/util/Preconditions" (some 0) with
  accessFlags := 33
  interfaces := #[]
  cf := some (fileOf pool13 24 #[.nestMembers #[55, 131, 125, 114]] #[{ accessFlags := 1, nameIndex := 5, descriptorIndex := 6, attributes := #[] }] 33 2 #[] #[{ accessFlags := 25, nameIndex := 123, descriptorIndex := 124, attributes := #[] }, { accessFlags := 25, nameIndex := 130, descriptorIndex := 124, attributes := #[] }, { accessFlags := 25, nameIndex := 136, descriptorIndex := 124, attributes := #[] }])
  fields := #[{ name := "SIOOBE_FORMATTER", type := (.object "java/util/function/BiFunction"), accessFlags := 25, slot := 0, constantValue := 0 }, { name := "AIOOBE_FORMATTER", type := (.object "java/util/function/BiFunction"), accessFlags := 25, slot := 1, constantValue := 0 }, { name := "IOOBE_FORMATTER", type := (.object "java/util/function/BiFunction"), accessFlags := 25, slot := 2, constantValue := 0 }]
  methods := #[k13m0]
  instanceTypes := #[]
  staticTypes := #[(.object "java/util/function/BiFunction"), (.object "java/util/function/BiFunction"), (.object "java/util/function/BiFunction")]
  resolved := Array.replicate 194 none
  statics := some 2 }

def pool14 : Array CpInfo := pool [(9, u "<init>"), (6, .class_ 18), (1, u "java/lang/Object"), (0, u "()V"), (1, .class_ 23), (1, u "jdk/internal/util/ArraysSupport"), (0, u "LOG2_ARRAY_LONG_INDEX_SCALE"), (0, u "I"), (2, u "U"), (0, u "Ljdk/internal/misc/Unsafe;"), (8, u "BIG_ENDIAN"), (0, u "Z"), (8, u "LOG2_BYTE_BIT_SIZE"), (4, u "LOG2_ARRAY_INT_INDEX_SCALE"), (54, u "JLA"), (0, u "Ljdk/internal/access/JavaLangAccess;"), (11, u "LOG2_ARRAY_BOOLEAN_INDEX_SCALE"), (9, u "LOG2_ARRAY_BYTE_INDEX_SCALE"), (5, u "LOG2_ARRAY_CHAR_INDEX_SCALE"), (5, u "LOG2_ARRAY_SHORT_INDEX_SCALE"), (18, u "LOG2_ARRAY_FLOAT_INDEX_SCALE"), (24, u "LOG2_ARRAY_DOUBLE_INDEX_SCALE"), (89, u "T_BOOLEAN"), (2, u "T_CHAR"), (1, u "T_FLOAT"), (1, u "T_DOUBLE"), (1, u "T_BYTE"), (1, u "T_SHORT"), (1, u "T_INT"), (1, u "T_LONG"), (1, u "SOFT_MAX_ARRAY_LENGTH")] 83

def k14m0 : Method := { name := "<init>", desc := "()V", sig := { parameters := [], returnType := none }, accessFlags := 2, code := none }
/-- jdk/internal/util/ArraysSupport -/
def k14 : Class := { plain "jdk/internal/util/ArraysSupport" (some 0) with
  accessFlags := 33
  interfaces := #[]
  cf := some (fileOf pool14 21 #[] #[{ accessFlags := 2, nameIndex := 9, descriptorIndex := 19, attributes := #[] }] 33 16 #[] #[{ accessFlags := 24, nameIndex := 28, descriptorIndex := 29, attributes := #[] }, { accessFlags := 26, nameIndex := 38, descriptorIndex := 39, attributes := #[] }, { accessFlags := 25, nameIndex := 121, descriptorIndex := 25, attributes := #[] }, { accessFlags := 25, nameIndex := 131, descriptorIndex := 25, attributes := #[] }, { accessFlags := 25, nameIndex := 137, descriptorIndex := 25, attributes := #[] }, { accessFlags := 25, nameIndex := 143, descriptorIndex := 25, attributes := #[] }, { accessFlags := 25, nameIndex := 53, descriptorIndex := 25, attributes := #[] }, { accessFlags := 25, nameIndex := 24, descriptorIndex := 25, attributes := #[] }, { accessFlags := 25, nameIndex := 162, descriptorIndex := 25, attributes := #[] }, { accessFlags := 25, nameIndex := 187, descriptorIndex := 25, attributes := #[] }, { accessFlags := 26, nameIndex := 48, descriptorIndex := 25, attributes := #[] }, { accessFlags := 25, nameIndex := 277, descriptorIndex := 25, attributes := #[] }, { accessFlags := 25, nameIndex := 280, descriptorIndex := 25, attributes := #[] }, { accessFlags := 25, nameIndex := 282, descriptorIndex := 25, attributes := #[] }, { accessFlags := 25, nameIndex := 284, descriptorIndex := 25, attributes := #[] }, { accessFlags := 25, nameIndex := 286, descriptorIndex := 25, attributes := #[] }, { accessFlags := 25, nameIndex := 288, descriptorIndex := 25, attributes := #[] }, { accessFlags := 25, nameIndex := 290, descriptorIndex := 25, attributes := #[] }, { accessFlags := 25, nameIndex := 292, descriptorIndex := 25, attributes := #[] }, { accessFlags := 26, nameIndex := 108, descriptorIndex := 109, attributes := #[] }, { accessFlags := 25, nameIndex := 294, descriptorIndex := 25, attributes := #[] }])
  fields := #[{ name := "U", type := (.object "jdk/internal/misc/Unsafe"), accessFlags := 24, slot := 0, constantValue := 0 }, { name := "BIG_ENDIAN", type := .boolean, accessFlags := 26, slot := 1, constantValue := 0 }, { name := "LOG2_ARRAY_BOOLEAN_INDEX_SCALE", type := .int, accessFlags := 25, slot := 2, constantValue := 0 }, { name := "LOG2_ARRAY_BYTE_INDEX_SCALE", type := .int, accessFlags := 25, slot := 3, constantValue := 0 }, { name := "LOG2_ARRAY_CHAR_INDEX_SCALE", type := .int, accessFlags := 25, slot := 4, constantValue := 0 }, { name := "LOG2_ARRAY_SHORT_INDEX_SCALE", type := .int, accessFlags := 25, slot := 5, constantValue := 0 }, { name := "LOG2_ARRAY_INT_INDEX_SCALE", type := .int, accessFlags := 25, slot := 6, constantValue := 0 }, { name := "LOG2_ARRAY_LONG_INDEX_SCALE", type := .int, accessFlags := 25, slot := 7, constantValue := 0 }, { name := "LOG2_ARRAY_FLOAT_INDEX_SCALE", type := .int, accessFlags := 25, slot := 8, constantValue := 0 }, { name := "LOG2_ARRAY_DOUBLE_INDEX_SCALE", type := .int, accessFlags := 25, slot := 9, constantValue := 0 }, { name := "LOG2_BYTE_BIT_SIZE", type := .int, accessFlags := 26, slot := 10, constantValue := 0 }, { name := "T_BOOLEAN", type := .int, accessFlags := 25, slot := 11, constantValue := 0 }, { name := "T_CHAR", type := .int, accessFlags := 25, slot := 12, constantValue := 0 }, { name := "T_FLOAT", type := .int, accessFlags := 25, slot := 13, constantValue := 0 }, { name := "T_DOUBLE", type := .int, accessFlags := 25, slot := 14, constantValue := 0 }, { name := "T_BYTE", type := .int, accessFlags := 25, slot := 15, constantValue := 0 }, { name := "T_SHORT", type := .int, accessFlags := 25, slot := 16, constantValue := 0 }, { name := "T_INT", type := .int, accessFlags := 25, slot := 17, constantValue := 0 }, { name := "T_LONG", type := .int, accessFlags := 25, slot := 18, constantValue := 0 }, { name := "JLA", type := (.object "jdk/internal/access/JavaLangAccess"), accessFlags := 26, slot := 19, constantValue := 0 }, { name := "SOFT_MAX_ARRAY_LENGTH", type := .int, accessFlags := 25, slot := 20, constantValue := 0 }]
  methods := #[k14m0]
  instanceTypes := #[]
  staticTypes := #[(.object "jdk/internal/misc/Unsafe"), .boolean, .int, .int, .int, .int, .int, .int, .int, .int, .int, .int, .int, .int, .int, .int, .int, .int, .int, (.object "jdk/internal/access/JavaLangAccess"), .int]
  resolved := Array.replicate 378 none
  statics := none }

def pool15 : Array CpInfo := pool [(1, u "java/lang/Cloneable"), (0, .class_ 1), (0, u "java/lang/Object"), (0, .class_ 3)] 3

/-- java/lang/Cloneable -/
def k15 : Class := { plain "java/lang/Cloneable" (some 0) with
  accessFlags := 1537
  interfaces := #[]
  cf := some (fileOf pool15 2 #[] #[] 1537 4 #[] #[])
  fields := #[]
  methods := #[]
  instanceTypes := #[]
  staticTypes := #[]
  resolved := Array.replicate 8 none
  statics := none }

/-- the primitive byte -/
def k16 : Class := { plain "byte" none with kind := .primitive 'B', accessFlags := 0x411 }
/-- [B -/
def k17 : Class := { plain "[B" (some 0) with kind := .array 16 .byte, interfaces := #[15, 2], accessFlags := 1041 }

/-- the primitive char -/
def k18 : Class := { plain "char" none with kind := .primitive 'C', accessFlags := 0x411 }
/-- [C -/
def k19 : Class := { plain "[C" (some 0) with kind := .array 18 .char, interfaces := #[15, 2], accessFlags := 1041 }

/-- the primitive int -/
def k20 : Class := { plain "int" none with kind := .primitive 'I', accessFlags := 0x411 }
/-- [I -/
def k21 : Class := { plain "[I" (some 0) with kind := .array 20 .int, interfaces := #[15, 2], accessFlags := 1041 }

def heap : Heap := #[{ cls := 7, slots := #[.long 0, .int 1, .null, .int 0, .null, .int 0, .int 0], vm := .statics 7 },
  { cls := 11, slots := #[.null, .ref 3, .null], vm := .statics 11 },
  { cls := 13, slots := #[.null, .null, .null], vm := .statics 13 },
  { cls := 11, slots := #[.null, .int 1, .int 0], vm := .none }]
def classes : Array Class := #[k0, k1, k2, k3, k4, k5, k6, k7, k8, k9, k10, k11, k12, k13, k14, k15, k16, k17, k18, k19, k20, k21]
def interned : List (Array UInt16 × Addr) := []
def slotsUsed : Nat := 16
def theMethod : MethodId := ⟨1, 1⟩
def args0 : Array Value := #[.int 65, .int 70, .int 2]
def aboutOver (below : List Frame) : State where
  vm := { classes := classes, interned := interned.toArray }
  heap := heap
  slotsUsed := slotsUsed
  threads := #[{ frames := .invoking theMethod args0 :: below }]
def below0 : List Frame := [.native { method := ⟨0, 0⟩, args := #[] }]
def about1 : State := aboutOver below0
def p0 : Program := .bare "" "" ""
def e0 : Env := launch0.env 0 0 0
theorem w_frames : about1.frames = Frame.invoking theMethod args0 :: below0 := rfl
set_option maxRecDepth 65536 in
theorem w_args : argsFit about1.vm theMethod args0 = true := by decide +kernel
set_option maxRecDepth 65536 in
theorem w_heap : heapFits about1 = true := by decide +kernel
set_option maxRecDepth 65536 in
theorem w_runnable : about1.curStatus? = some .runnable := by decide +kernel
set_option maxRecDepth 65536 in
theorem w_alone : about1.alone = true := by decide +kernel
set_option maxRecDepth 65536 in
theorem w_named : about1.methodNamed? x = some theMethod := by decide +kernel
set_option maxRecDepth 65536 in
theorem w_hears : about1.hears theMethod below0 = true := by decide +kernel
set_option maxRecDepth 65536 in
theorem w_ripe : about1.ripe theMethod args0 below0 = true := by decide +kernel
theorem w_running : about1.status = .running := rfl
set_option maxRecDepth 65536 in
theorem w_room : about1.hasRoom e0.platform room_1 = true :=
  launch0.hasRoom_least _ room_1 (by decide +kernel) (by decide +kernel) (by decide +kernel) (by decide +kernel) (by decide +kernel) (by decide +kernel)
theorem allAtoms_all (ts : List Jvm.Cond) (a : Array Jvm.Value) (st : Jvm.State) : (allAtoms ts).before a st = ts.all (fun c => c.before a st) := by
  induction ts with
  | nil => rfl
  | cons c t ih =>
    show (Jvm.Cond.and c (allAtoms t)).before a st = _
    rw [Jvm.Cond.before_and, ih, List.all_cons]
def words1 : List Jvm.Cond := Jvm.Cond.code x code maxLocals ret :: tables_1
/-- a 'code' word, met by the world's own term for the bytes: nothing is compared byte by byte -/
theorem code_word {y : MethodName} {bytes : ByteArray} {mx : Nat} {rt : Option FieldType} {a : Array Value} {s : State} {m : MethodId} {meth : Method} {c : Code} (h1 : s.methodNamed? y = some m) (h2 : s.vm.method? m = some meth) (h3 : meth.code = some c) (h4 : c.code = bytes)
    (h5 : (c.maxLocals == mx && c.exceptionTable.isEmpty && decide (c.maxStack ≤ mostOperands) && decide (meth.sig.returnType = rt) && !meth.locks && decide (parseMethodDescriptor y.desc = some meth.sig)) = true) : (Jvm.Cond.code y bytes mx rt).before a s = true := by
  simp only [Bool.and_eq_true, beq_iff_eq, Bool.not_eq_true', decide_eq_true_eq] at h5
  obtain ⟨⟨⟨⟨⟨g1, g2⟩, g3⟩, g4⟩, g5⟩, g6⟩ := h5
  simp [Cond.before, Cond.holds, Cond.value, h1, h2, h3, h4, g1, g2, g3, g4, g5, g6]
def isCode : Jvm.Cond → Bool
  | .code _ _ _ _ => true
  | _ => false
theorem all_split {L : List Jvm.Cond} {P : Jvm.Cond → Bool} (h1 : L.all (fun c => isCode c || P c) = true) (h2 : ∀ c ∈ L.filter isCode, P c = true) : L.all P = true := by
  refine List.all_eq_true.mpr fun c hc => ?_
  have h := List.all_eq_true.mp h1 c hc
  rcases Bool.eq_false_or_eq_true (isCode c) with hi | hi
  · exact h2 c (List.mem_filter.mpr ⟨hc, hi⟩)
  · simpa [hi] using h
set_option maxRecDepth 65536 in
theorem w_c0 : (Jvm.Cond.code x code maxLocals ret).before args0 about1 = true := code_word (m := ⟨1, 1⟩) (meth := k1m1) (c := k1c1) (by decide +kernel) rfl rfl rfl (by decide +kernel)
set_option maxRecDepth 65536 in
theorem w_c1 : (Jvm.Cond.code ({ cls := "java/lang/String", name := "<init>", desc := "([C)V" } : Jvm.MethodName) jdk_42_method_3_code (2 : Nat) (Option.none : Option Jvm.ClassFile.FieldType)).before args0 about1 = true := code_word (m := ⟨7, 1⟩) (meth := k7m1) (c := k7c1) (by decide +kernel) rfl rfl rfl (by decide +kernel)
set_option maxRecDepth 65536 in
theorem w_c2 : (Jvm.Cond.code ({ cls := "java/lang/String", name := "<init>", desc := "([CIILjava/lang/Void;)V" } : Jvm.MethodName) jdk_42_method_149_code (6 : Nat) (Option.none : Option Jvm.ClassFile.FieldType)).before args0 about1 = true := code_word (m := ⟨7, 3⟩) (meth := k7m3) (c := k7c3) (by decide +kernel) rfl rfl rfl (by decide +kernel)
set_option maxRecDepth 65536 in
theorem w_c3 : (Jvm.Cond.code ({ cls := "java/lang/Object", name := "<init>", desc := "()V" } : Jvm.MethodName) object_method_1_code (1 : Nat) (Option.none : Option Jvm.ClassFile.FieldType)).before args0 about1 = true := code_word (m := ⟨0, 0⟩) (meth := k0m0) (c := k0c0) (by decide +kernel) rfl rfl rfl (by decide +kernel)
set_option maxRecDepth 65536 in
theorem w_c4 : (Jvm.Cond.code ({ cls := "java/lang/StringUTF16", name := "compress", desc := "([CII)[B" } : Jvm.MethodName) jdk_52_method_16_code (6 : Nat) (Option.some (Jvm.ClassFile.FieldType.array Jvm.ClassFile.FieldType.byte))).before args0 about1 = true := code_word (m := ⟨8, 2⟩) (meth := k8m2) (c := k8c2) (by decide +kernel) rfl rfl rfl (by decide +kernel)
set_option maxRecDepth 65536 in
theorem w_c5 : (Jvm.Cond.code ({ cls := "java/lang/StringUTF16", name := "compress", desc := "([CI[BII)I" } : Jvm.MethodName) jdk_52_method_21_code (7 : Nat) (Option.some Jvm.ClassFile.FieldType.int)).before args0 about1 = true := code_word (m := ⟨8, 3⟩) (meth := k8m3) (c := k8c3) (by decide +kernel) rfl rfl rfl (by decide +kernel)
set_option maxRecDepth 65536 in
theorem w_c6 : (Jvm.Cond.code ({ cls := "java/lang/StringUTF16", name := "coderFromArrayLen", desc := "([BI)B" } : Jvm.MethodName) jdk_52_method_15_code (2 : Nat) (Option.some Jvm.ClassFile.FieldType.byte)).before args0 about1 = true := code_word (m := ⟨8, 1⟩) (meth := k8m1) (c := k8c1) (by decide +kernel) rfl rfl rfl (by decide +kernel)
set_option maxRecDepth 65536 in
theorem w_c7 : (Jvm.Cond.code ({ cls := "com/example/clauses_to_controls/clausestocontrols/service/DependencyFinding", name := "noData", desc := "(Ljava/lang/String;)Lcom/example/clauses_to_controls/clausestocontrols/service/DependencyFinding;" } : Jvm.MethodName) prog_32_method_3_code (1 : Nat) (Option.some (Jvm.ClassFile.FieldType.object "com/example/clauses_to_controls/clausestocontrols/service/DependencyFinding"))).before args0 about1 = true := code_word (m := ⟨9, 1⟩) (meth := k9m1) (c := k9c1) (by decide +kernel) rfl rfl rfl (by decide +kernel)
set_option maxRecDepth 65536 in
theorem w_c8 : (Jvm.Cond.code ({ cls := "com/example/clauses_to_controls/clausestocontrols/service/DependencyFinding", name := "<init>", desc := "(Lcom/example/clauses_to_controls/clausestocontrols/service/DependencyFinding$Kind;Ljava/lang/String;Lcom/example/clauses_to_controls/clausestocontrols/model/DependencyGroup;)V" } : Jvm.MethodName) prog_32_method_1_code (4 : Nat) (Option.none : Option Jvm.ClassFile.FieldType)).before args0 about1 = true := code_word (m := ⟨9, 0⟩) (meth := k9m0) (c := k9c0) (by decide +kernel) rfl rfl rfl (by decide +kernel)
set_option maxRecDepth 65536 in
theorem w_c9 : (Jvm.Cond.code ({ cls := "com/example/clauses_to_controls/clausestocontrols/service/DependencyFinding", name := "kind", desc := "()Lcom/example/clauses_to_controls/clausestocontrols/service/DependencyFinding$Kind;" } : Jvm.MethodName) prog_32_method_4_code (1 : Nat) (Option.some (Jvm.ClassFile.FieldType.object "com/example/clauses_to_controls/clausestocontrols/service/DependencyFinding$Kind"))).before args0 about1 = true := code_word (m := ⟨9, 2⟩) (meth := k9m2) (c := k9c2) (by decide +kernel) rfl rfl rfl (by decide +kernel)
set_option maxRecDepth 65536 in
theorem w_c10 : (Jvm.Cond.code ({ cls := "com/example/clauses_to_controls/clausestocontrols/service/DependencyFinding", name := "component", desc := "()Ljava/lang/String;" } : Jvm.MethodName) prog_32_method_5_code (1 : Nat) (Option.some (Jvm.ClassFile.FieldType.object "java/lang/String"))).before args0 about1 = true := code_word (m := ⟨9, 3⟩) (meth := k9m3) (c := k9c3) (by decide +kernel) rfl rfl rfl (by decide +kernel)
set_option maxRecDepth 65536 in
theorem w_c11 : (Jvm.Cond.code ({ cls := "java/lang/String", name := "valueOf", desc := "(C)Ljava/lang/String;" } : Jvm.MethodName) jdk_42_method_139_code (1 : Nat) (Option.some (Jvm.ClassFile.FieldType.object "java/lang/String"))).before args0 about1 = true := code_word (m := ⟨7, 2⟩) (meth := k7m2) (c := k7c2) (by decide +kernel) rfl rfl rfl (by decide +kernel)
set_option maxRecDepth 65536 in
theorem w_c12 : (Jvm.Cond.code ({ cls := "java/lang/StringLatin1", name := "canEncode", desc := "(C)Z" } : Jvm.MethodName) jdk_43_method_3_code (1 : Nat) (Option.some Jvm.ClassFile.FieldType.boolean)).before args0 about1 = true := code_word (m := ⟨12, 1⟩) (meth := k12m1) (c := k12c1) (by decide +kernel) rfl rfl rfl (by decide +kernel)
set_option maxRecDepth 65536 in
theorem w_c13 : (Jvm.Cond.code ({ cls := "java/lang/StringLatin1", name := "toBytes", desc := "(C)[B" } : Jvm.MethodName) jdk_43_method_46_code (1 : Nat) (Option.some (Jvm.ClassFile.FieldType.array Jvm.ClassFile.FieldType.byte))).before args0 about1 = true := code_word (m := ⟨12, 2⟩) (meth := k12m2) (c := k12c2) (by decide +kernel) rfl rfl rfl (by decide +kernel)
set_option maxRecDepth 65536 in
theorem w_c14 : (Jvm.Cond.code ({ cls := "java/lang/String", name := "<init>", desc := "([BB)V" } : Jvm.MethodName) jdk_42_method_151_code (3 : Nat) (Option.none : Option Jvm.ClassFile.FieldType)).before args0 about1 = true := code_word (m := ⟨7, 4⟩) (meth := k7m4) (c := k7c4) (by decide +kernel) rfl rfl rfl (by decide +kernel)
def codes1 : List Jvm.Cond := [Jvm.Cond.code x code maxLocals ret, Jvm.Cond.code ({ cls := "java/lang/String", name := "<init>", desc := "([C)V" } : Jvm.MethodName) jdk_42_method_3_code (2 : Nat) (Option.none : Option Jvm.ClassFile.FieldType), Jvm.Cond.code ({ cls := "java/lang/String", name := "<init>", desc := "([CIILjava/lang/Void;)V" } : Jvm.MethodName) jdk_42_method_149_code (6 : Nat) (Option.none : Option Jvm.ClassFile.FieldType), Jvm.Cond.code ({ cls := "java/lang/Object", name := "<init>", desc := "()V" } : Jvm.MethodName) object_method_1_code (1 : Nat) (Option.none : Option Jvm.ClassFile.FieldType), Jvm.Cond.code ({ cls := "java/lang/StringUTF16", name := "compress", desc := "([CII)[B" } : Jvm.MethodName) jdk_52_method_16_code (6 : Nat) (Option.some (Jvm.ClassFile.FieldType.array Jvm.ClassFile.FieldType.byte)), Jvm.Cond.code ({ cls := "java/lang/StringUTF16", name := "compress", desc := "([CI[BII)I" } : Jvm.MethodName) jdk_52_method_21_code (7 : Nat) (Option.some Jvm.ClassFile.FieldType.int), Jvm.Cond.code ({ cls := "java/lang/StringUTF16", name := "coderFromArrayLen", desc := "([BI)B" } : Jvm.MethodName) jdk_52_method_15_code (2 : Nat) (Option.some Jvm.ClassFile.FieldType.byte), Jvm.Cond.code ({ cls := "com/example/clauses_to_controls/clausestocontrols/service/DependencyFinding", name := "noData", desc := "(Ljava/lang/String;)Lcom/example/clauses_to_controls/clausestocontrols/service/DependencyFinding;" } : Jvm.MethodName) prog_32_method_3_code (1 : Nat) (Option.some (Jvm.ClassFile.FieldType.object "com/example/clauses_to_controls/clausestocontrols/service/DependencyFinding")), Jvm.Cond.code ({ cls := "com/example/clauses_to_controls/clausestocontrols/service/DependencyFinding", name := "<init>", desc := "(Lcom/example/clauses_to_controls/clausestocontrols/service/DependencyFinding$Kind;Ljava/lang/String;Lcom/example/clauses_to_controls/clausestocontrols/model/DependencyGroup;)V" } : Jvm.MethodName) prog_32_method_1_code (4 : Nat) (Option.none : Option Jvm.ClassFile.FieldType), Jvm.Cond.code ({ cls := "com/example/clauses_to_controls/clausestocontrols/service/DependencyFinding", name := "kind", desc := "()Lcom/example/clauses_to_controls/clausestocontrols/service/DependencyFinding$Kind;" } : Jvm.MethodName) prog_32_method_4_code (1 : Nat) (Option.some (Jvm.ClassFile.FieldType.object "com/example/clauses_to_controls/clausestocontrols/service/DependencyFinding$Kind")), Jvm.Cond.code ({ cls := "com/example/clauses_to_controls/clausestocontrols/service/DependencyFinding", name := "component", desc := "()Ljava/lang/String;" } : Jvm.MethodName) prog_32_method_5_code (1 : Nat) (Option.some (Jvm.ClassFile.FieldType.object "java/lang/String")), Jvm.Cond.code ({ cls := "java/lang/String", name := "valueOf", desc := "(C)Ljava/lang/String;" } : Jvm.MethodName) jdk_42_method_139_code (1 : Nat) (Option.some (Jvm.ClassFile.FieldType.object "java/lang/String")), Jvm.Cond.code ({ cls := "java/lang/StringLatin1", name := "canEncode", desc := "(C)Z" } : Jvm.MethodName) jdk_43_method_3_code (1 : Nat) (Option.some Jvm.ClassFile.FieldType.boolean), Jvm.Cond.code ({ cls := "java/lang/StringLatin1", name := "toBytes", desc := "(C)[B" } : Jvm.MethodName) jdk_43_method_46_code (1 : Nat) (Option.some (Jvm.ClassFile.FieldType.array Jvm.ClassFile.FieldType.byte)), Jvm.Cond.code ({ cls := "java/lang/String", name := "<init>", desc := "([BB)V" } : Jvm.MethodName) jdk_42_method_151_code (3 : Nat) (Option.none : Option Jvm.ClassFile.FieldType)]
set_option maxRecDepth 65536 in
theorem codes_eq : words1.filter isCode = codes1 := rfl
theorem w_codes : ∀ c ∈ words1.filter isCode, c.before args0 about1 = true := by
  rw [codes_eq]
  intro c hc
  simp only [codes1, List.mem_cons, List.not_mem_nil, or_false] at hc
  rcases hc with rfl | rfl | rfl | rfl | rfl | rfl | rfl | rfl | rfl | rfl | rfl | rfl | rfl | rfl | rfl
  · exact w_c0
  · exact w_c1
  · exact w_c2
  · exact w_c3
  · exact w_c4
  · exact w_c5
  · exact w_c6
  · exact w_c7
  · exact w_c8
  · exact w_c9
  · exact w_c10
  · exact w_c11
  · exact w_c12
  · exact w_c13
  · exact w_c14
set_option maxRecDepth 65536 in
theorem w_t1 : (words1.take 24).all (fun c => isCode c || c.before args0 about1) = true := by decide +kernel
set_option maxRecDepth 65536 in
theorem w_t2 : ((words1.drop 24).take 24).all (fun c => isCode c || c.before args0 about1) = true := by decide +kernel
set_option maxRecDepth 65536 in
theorem w_t3 : (((words1.drop 24).drop 24).take 24).all (fun c => isCode c || c.before args0 about1) = true := by decide +kernel
set_option maxRecDepth 65536 in
theorem w_t4 : (((words1.drop 24).drop 24).drop 24).all (fun c => isCode c || c.before args0 about1) = true := by decide +kernel
theorem w_tables : (allAtoms (Jvm.Cond.code x code maxLocals ret :: tables_1)).before args0 about1 = true := by
  rw [allAtoms_all]
  show words1.all (fun c => c.before args0 about1) = true
  refine all_split ?_ w_codes
  rw [← List.take_append_drop 24 words1, List.all_append, w_t1, ← List.take_append_drop 24 (words1.drop 24), List.all_append, w_t2, ← List.take_append_drop 24 ((words1.drop 24).drop 24), List.all_append, w_t3, w_t4]
  rfl
set_option maxRecDepth 65536 in
theorem w_rest : rest_1_c.before args0 about1 = true := by decide +kernel
set_option maxRecDepth 65536 in
theorem w_case : (Jvm.Cond.and given_1 narrow_1).before args0 about1 = true := by decide +kernel
theorem w_applies : (headSpec (Jvm.Cond.code x code maxLocals ret :: tables_1) room_1).applies x e0.platform about1 = true :=
  (Spec.applies_iff w_frames).mpr ⟨w_running, w_runnable, w_alone, w_named, w_hears, w_ripe, w_room, w_tables⟩
theorem atStart : AtStart classFile x code maxLocals ret World_1 tables_1 room_1 Calls_1 rest_1 Pre_1 launch0 p0 e0 about1 theMethod args0 below0 :=
  ⟨lists_1, trivial, launch0.admits_env _ _ _, launch0.least_env, fairChoices_fair.cas, fairChoices_fair.clock, w_frames, w_args, w_heap, w_applies, trivial, w_rest, w_case⟩
end start1
theorem witness_1 : WitnessClaimed_1 := ⟨start1.p0, start1.e0, start1.about1, start1.theMethod, start1.args0, start1.below0, start1.atStart⟩
end Jvm.Pilot.@@N@@
