import JvmDerived
import JvmDerived.Pilot.@@N@@Statement
import JvmDerived.Pilot.@@N@@Code
set_option linter.unusedVariables false
set_option linter.unusedSimpArgs false
@@BLOCK:NumsL.lean.txt@@
/- laws to paste: Road.backV (cut by pick.py; bodies as the Statement names them) -/
namespace Jvm.Pilot.@@N@@
namespace StrChars
open Jvm Sem ClassFile Op Lib Jvm.Stand Jvm.Free.XT Jvm.Free.ALB Jvm.Free.JM Jvm.Free
open Jvm.Lib.Cold (StaticIs)
/-- a char array whose places are chars -/
def Ch (a : Addr) (A : Cell) (U : State) : Prop := Arr .char a A U ∧ Typed .char A
theorem Ch.mv {a : Addr} {A : Cell} {U U' : State} (h : Ch a A U) (hal : U.vm.Alike U'.vm) (hh : U'.heap = U.heap) : Ch a A U' := ⟨h.1.mv hal hh, h.2⟩
theorem Ch.keep {a : Addr} {A : Cell} {U U' : State} (h : Ch a A U) (hal : U.vm.Alike U'.vm) (hk : U'.heap[a]? = some A) : Ch a A U' := ⟨h.1.keep hal hk, h.2⟩
/-- what place i of a char[]'s cell holds -/
def cv (A : Cell) (i : Nat) : Int32 := match A.slots[i]? with | some (.int x) => x | _ => 0
theorem Ch.get {a : Addr} {A : Cell} {U : State} (h : Ch a A U) {i : Nat} (hi : i < A.slots.size) : A.slots[i]? = some (.int (cv A i)) := by
  have e := Array.getElem?_eq_getElem hi
  have f := h.2 i _ e
  unfold cv; rw [e]
  generalize A.slots[i] = v at f
  cases v <;> simp [fits] at f ⊢
/-- the byte that i2b leaves of a char -/
def lo8 (x : Int32) : Int32 := x.toInt8.toInt32
theorem fits_lo8 (y : Int32) : fits .byte (.int (lo8 y)) = true := by
  have h1 := y.toInt8.le_toInt
  have h2 := y.toInt8.toInt_lt
  simp only [lo8, fits, Bool.and_eq_true, decide_eq_true_eq, Int32.le_iff_toInt_le, Int8.toInt_toInt32, show (-128 : Int32).toInt = -128 from by decide, show (127 : Int32).toInt = 127 from by decide]
  omega
/-- A' is A but that each place j of lo .. hi - 1 holds f j -/
def Laid (A A' : Cell) (lo hi : Nat) (f : Nat → Value) : Prop := A'.cls = A.cls ∧ A'.vm = A.vm ∧ A'.slots.size = A.slots.size ∧ ∀ i, A'.slots[i]? = if lo ≤ i ∧ i < hi then some (f i) else A.slots[i]?
theorem Laid.zero (A : Cell) (lo : Nat) (f : Nat → Value) : Laid A A lo (lo + 0) f := ⟨rfl, rfl, rfl, fun i => by rw [if_neg (by omega)]⟩
theorem Laid.step {A Ak : Cell} {lo k : Nat} {f : Nat → Value} {v : Value} (h : Laid A Ak lo k f) (hlo : lo ≤ k) (hk : k < Ak.slots.size) (hv : v = f k) : Laid A (Ak.setSlot k v) lo (k + 1) f := by
  refine ⟨h.1, h.2.1, by simpa [Cell.setSlot] using h.2.2.1, fun i => ?_⟩
  by_cases e : k = i
  · subst e; rw [Cell.slots_setSlot_self v hk, if_pos (by omega), hv]
  · rw [Cell.slots_setSlot_ne v e, h.2.2.2 i]
    by_cases q : lo ≤ i ∧ i < k
    · rw [if_pos q, if_pos (by omega)]
    · rw [if_neg q, if_neg (by omega)]
def U16 : String := "java/lang/StringUTF16"
namespace Cmp5
def yN : MethodName := ⟨"java/lang/StringUTF16", "compress", "([CI[BII)I"⟩
abbrev yB : ByteArray := jdk_52_method_21_code
theorem d0 : decode yB 0 = .ok (.iconst 0, 1) := by decide +kernel
theorem d1 : decode yB 1 = .ok (.istore 5, 2) := by decide +kernel
theorem d3 : decode yB 3 = .ok (.iload 5, 2) := by decide +kernel
theorem d5 : decode yB 5 = .ok (.iload 4, 2) := by decide +kernel
theorem d7 : decode yB 7 = .ok (.if_icmp (.ge) 37, 3) := by decide +kernel
theorem d10 : decode yB 10 = .ok (.aload_n 0, 1) := by decide +kernel
theorem d11 : decode yB 11 = .ok (.iload_n 1, 1) := by decide +kernel
theorem d12 : decode yB 12 = .ok (.caload, 1) := by decide +kernel
theorem d13 : decode yB 13 = .ok (.istore 6, 2) := by decide +kernel
theorem d15 : decode yB 15 = .ok (.iload 6, 2) := by decide +kernel
theorem d17 : decode yB 17 = .ok (.sipush 255, 3) := by decide +kernel
theorem d20 : decode yB 20 = .ok (.if_icmp (.le) 6, 3) := by decide +kernel
theorem d26 : decode yB 26 = .ok (.aload_n 2, 1) := by decide +kernel
theorem d27 : decode yB 27 = .ok (.iload_n 3, 1) := by decide +kernel
theorem d28 : decode yB 28 = .ok (.iload 6, 2) := by decide +kernel
theorem d30 : decode yB 30 = .ok (.i2b, 1) := by decide +kernel
theorem d31 : decode yB 31 = .ok (.bastore, 1) := by decide +kernel
theorem d32 : decode yB 32 = .ok (.iinc 1 1, 3) := by decide +kernel
theorem d35 : decode yB 35 = .ok (.iinc 3 1, 3) := by decide +kernel
theorem d38 : decode yB 38 = .ok (.iinc 5 1, 3) := by decide +kernel
theorem d41 : decode yB 41 = .ok (.goto (-38), 3) := by decide +kernel
theorem d44 : decode yB 44 = .ok (.iload 4, 2) := by decide +kernel
theorem d46 : decode yB 46 = .ok (.ireturn, 1) := by decide +kernel
def site : List Cond := []
def tab : Cond := tabOf yN yB 7 (some .int) site
def P (b : Addr) (A : Cell) (d : Addr) (B : Cell) (o q len : Nat) (args : Array Value) (s : State) : Prop := args = #[.ref b, .int (Int32.ofNat o), .ref d, .int (Int32.ofNat q), .int (Int32.ofNat len)] ∧ Ch b A s ∧ Arr .byte d B s ∧ b ≠ d ∧ o + len ≤ A.slots.size ∧ q + len ≤ B.slots.size ∧ ∀ i, i < len → ¬ 255 < cv A (o + i)
def E (b : Addr) (A : Cell) (d : Addr) (B : Cell) (o q len : Nat) (r : Option Value) (s u : State) : Prop := r = some (.int (Int32.ofNat len)) ∧ ∃ B', Put d B' s u ∧ Laid B B' q (q + len) (fun j => Value.int (lo8 (cv A (o + (j - q)))))
/-- no char of the range above 255: len; the places written hold each char's low byte -/
theorem law (l : Launch) (b : Addr) (A : Cell) (d : Addr) (B : Cell) (o q len : Nat) : Law l yN 5 5 0 0 yB 7 (some .int) site (P b A d B o q len) (E b A d B o q len) (copyLocs d q len) 0 0 := by
  refine Law.of_walk (plainFor_of_name (by decide +kernel)) (by decide +kernel) (by decide +kernel) (by decide) (fun _ _ h => by rw [h.1]; rfl) (fun _ U U' hal hh h => ⟨h.1, h.2.1.mv hal hh, h.2.2.1.mv hal hh, h.2.2.2⟩) (fun r U U' V V' h1 hal h2 h => ⟨h.1, h.2.elim fun B' q => ⟨B', q.1.mv h1 h2, q.2⟩⟩) ?_
  intro p e s m args below meth c s₁ X0 hexec hbytes hml hret hlk hnm hown hh0 W hP
  obtain ⟨rfl, hA, hB, hne, l1, l2, hp⟩ := hP
  have c1 : Steps p.tables e below (s₁.setTop (entryFrame m #[.ref b, .int (Int32.ofNat o), .ref d, .int (Int32.ofNat q), .int (Int32.ofNat len)] 7)) (s₁.setTop (mkF m 0 #[.val (.ref b), .val (.int (Int32.ofNat o)), .val (.ref d), .val (.int (Int32.ofNat q)), .val (.int (Int32.ofNat len)), .unset, .unset] [])) := entry rfl
  have hA0 := hA.1.mv X0.warmed.alike hh0
  have hB0 := hB.mv X0.warmed.alike hh0
  have a31 := hA.1.2.2.2
  have c2 : Steps p.tables e below (s₁.setTop (entryFrame m #[.ref b, .int (Int32.ofNat o), .ref d, .int (Int32.ofNat q), .int (Int32.ofNat len)] 7)) (s₁.setTop (mkF m 3 #[.val (.ref b), .val (.int (Int32.ofNat o)), .val (.ref d), .val (.int (Int32.ofNat q)), .val (.int (Int32.ofNat len)), .val (.int 0), .unset] [])) := c1.trans (by
    refine iconstV X0.here hexec rfl 0 (hb hbytes d0) (by decide) ?_
    refine XS.istore X0.here hexec rfl (hb hbytes d1) rfl rfl ?_
    exact Steps.refl _)
  have loop : ∀ (r i : Nat), i + r = len → ∀ (z : Slot), (z = .unset ∨ ∃ w, z = .val w ∧ w.category = 1) → ∀ (Tl : State) (Bk : Cell), Stand p l e { frames := 0, locals := 0, cells := 0, slots := 0 } s m #[.ref b, .int (Int32.ofNat o), .ref d, .int (Int32.ofNat q), .int (Int32.ofNat len)] below meth c Tl ([] ++ copyLocs d q i) 0 0 → Put d Bk s₁ Tl → Laid B Bk q (q + i) (fun j => Value.int (lo8 (cv A (o + (j - q))))) →
      Steps p.tables e below (s₁.setTop (entryFrame m #[.ref b, .int (Int32.ofNat o), .ref d, .int (Int32.ofNat q), .int (Int32.ofNat len)] 7)) (Tl.setTop (mkF m 3 #[.val (.ref b), .val (.int (Int32.ofNat (o + i))), .val (.ref d), .val (.int (Int32.ofNat (q + i))), .val (.int (Int32.ofNat len)), .val (.int (Int32.ofNat i)), z] [])) → ∃ (T' : State) (B' : Cell) (z' : Slot), Stand p l e { frames := 0, locals := 0, cells := 0, slots := 0 } s m #[.ref b, .int (Int32.ofNat o), .ref d, .int (Int32.ofNat q), .int (Int32.ofNat len)] below meth c T' ([] ++ copyLocs d q len) 0 0 ∧ Put d B' s₁ T' ∧ Laid B B' q (q + len) (fun j => Value.int (lo8 (cv A (o + (j - q))))) ∧
      Steps p.tables e below (s₁.setTop (entryFrame m #[.ref b, .int (Int32.ofNat o), .ref d, .int (Int32.ofNat q), .int (Int32.ofNat len)] 7)) (T'.setTop (mkF m 3 #[.val (.ref b), .val (.int (Int32.ofNat (o + len))), .val (.ref d), .val (.int (Int32.ofNat (q + len))), .val (.int (Int32.ofNat len)), .val (.int (Int32.ofNat len)), z'] [])) := by
    intro r
    induction r with
    | zero =>
      intro i hi z hz Tl Bk Xl pl fl cl
      have hil : i = len := by omega
      rw [hil] at Xl fl cl
      exact ⟨Tl, Bk, z, Xl, pl, fl, cl⟩
    | succ r ih =>
      intro i hi z hz Tl Bk Xl pl fl cl
      have all := X0.warmed.alike.symm.trans Xl.warmed.alike
      have hAl := hA0.keep all (pl.other hne hA0.1)
      have hBk := hB0.like all pl.1 fl.1 fl.2.1 fl.2.2.1
      have hlt : q + i < Bk.slots.size := by rw [fl.2.2.1]; omega
      have c3 : Steps p.tables e below (s₁.setTop (entryFrame m #[.ref b, .int (Int32.ofNat o), .ref d, .int (Int32.ofNat q), .int (Int32.ofNat len)] 7)) (Tl.setTop (mkF m 12 #[.val (.ref b), .val (.int (Int32.ofNat (o + i))), .val (.ref d), .val (.int (Int32.ofNat (q + i))), .val (.int (Int32.ofNat len)), .val (.int (Int32.ofNat i)), z] [.int (Int32.ofNat (o + i)), .ref b])) := cl.trans (by
        refine XS.iload Xl.here hexec rfl (hb hbytes d3) rfl ?_
        refine XS.iload Xl.here hexec rfl (hb hbytes d5) rfl ?_
        refine XS.icmpNo Xl.here hexec rfl (hb hbytes d7) rfl (ii_ge_f (lt32 (by omega) (by omega))) ?_
        refine XS.aloadN Xl.here hexec rfl (hb hbytes d10) rfl rfl ?_
        refine XS.iloadN Xl.here hexec rfl (hb hbytes d11) rfl ?_
        exact Steps.refl _)
      have c4 : Steps p.tables e below (s₁.setTop (entryFrame m #[.ref b, .int (Int32.ofNat o), .ref d, .int (Int32.ofNat q), .int (Int32.ofNat len)] 7)) (Tl.setTop (mkF m 13 #[.val (.ref b), .val (.int (Int32.ofNat (o + i))), .val (.ref d), .val (.int (Int32.ofNat (q + i))), .val (.int (Int32.ofNat len)), .val (.int (Int32.ofNat i)), z] [.int (cv A (o + i))])) := c3.trans (by
        refine Xl.aget hexec hAl rfl (hA.get (i := o + i) (by omega)) rfl rfl (hb hbytes d12) ?_
        exact Steps.refl _)
      have c5 : Steps p.tables e below (s₁.setTop (entryFrame m #[.ref b, .int (Int32.ofNat o), .ref d, .int (Int32.ofNat q), .int (Int32.ofNat len)] 7)) (Tl.setTop (mkF m 15 #[.val (.ref b), .val (.int (Int32.ofNat (o + i))), .val (.ref d), .val (.int (Int32.ofNat (q + i))), .val (.int (Int32.ofNat len)), .val (.int (Int32.ofNat i)), .val (.int (cv A (o + i)))] [])) := c4.trans (by
        refine XS.istoreS Xl.here hexec rfl (hb hbytes d13) rfl rfl hz ?_
        exact Steps.refl _)
      have c6 : Steps p.tables e below (s₁.setTop (entryFrame m #[.ref b, .int (Int32.ofNat o), .ref d, .int (Int32.ofNat q), .int (Int32.ofNat len)] 7)) (Tl.setTop (mkF m 31 #[.val (.ref b), .val (.int (Int32.ofNat (o + i))), .val (.ref d), .val (.int (Int32.ofNat (q + i))), .val (.int (Int32.ofNat len)), .val (.int (Int32.ofNat i)), .val (.int (cv A (o + i)))] [.int (lo8 (cv A (o + i))), .int (Int32.ofNat (q + i)), .ref d])) := c5.trans (by
        refine XS.iload Xl.here hexec rfl (hb hbytes d15) rfl ?_
        refine sipushV Xl.here hexec rfl 255 (hb hbytes d17) (by decide) ?_
        refine XS.icmpYes Xl.here hexec rfl (pc0 := 20) rfl (hb hbytes d20) rfl (ii_le_t (hp i (by omega))) (by decide) rfl ?_
        refine XS.aloadN Xl.here hexec rfl (hb hbytes d26) rfl rfl ?_
        refine XS.iloadN Xl.here hexec rfl (hb hbytes d27) rfl ?_
        refine XS.iload Xl.here hexec rfl (hb hbytes d28) rfl ?_
        refine i2b Xl.here hexec rfl (hb hbytes d30) rfl ?_
        exact Steps.refl _)
      obtain ⟨T7, X7, p7, st7⟩ := Xl.aput hexec hBk rfl hlt rfl (fits_lo8 (cv A (o + i))) (g := (mkF m 31 #[.val (.ref b), .val (.int (Int32.ofNat (o + i))), .val (.ref d), .val (.int (Int32.ofNat (q + i))), .val (.int (Int32.ofNat len)), .val (.int (Int32.ofNat i)), .val (.int (cv A (o + i)))] [.int (lo8 (cv A (o + i))), .int (Int32.ofNat (q + i)), .ref d])) rfl (rest := []) rfl (hb hbytes d31)
      have c8 : Steps p.tables e below (s₁.setTop (entryFrame m #[.ref b, .int (Int32.ofNat o), .ref d, .int (Int32.ofNat q), .int (Int32.ofNat len)] 7)) (T7.setTop (mkF m 32 #[.val (.ref b), .val (.int (Int32.ofNat (o + i))), .val (.ref d), .val (.int (Int32.ofNat (q + i))), .val (.int (Int32.ofNat len)), .val (.int (Int32.ofNat i)), .val (.int (cv A (o + i)))] [])) := c6.trans (st7 _ (Steps.refl _))
      have c9 : Steps p.tables e below (s₁.setTop (entryFrame m #[.ref b, .int (Int32.ofNat o), .ref d, .int (Int32.ofNat q), .int (Int32.ofNat len)] 7)) (T7.setTop (mkF m 3 #[.val (.ref b), .val (.int (Int32.ofNat (o + i) + 1)), .val (.ref d), .val (.int (Int32.ofNat (q + i) + 1)), .val (.int (Int32.ofNat len)), .val (.int (Int32.ofNat i + 1)), .val (.int (cv A (o + i)))] [])) := c8.trans (by
        refine iincV X7.here hexec rfl 1 (hb hbytes d32) (by decide) rfl rfl ?_
        refine iincV X7.here hexec rfl 1 (hb hbytes d35) (by decide) rfl rfl ?_
        refine iincV X7.here hexec rfl 1 (hb hbytes d38) (by decide) rfl rfl ?_
        refine XS.goto X7.here hexec rfl (pc0 := 41) rfl (hb hbytes d41) (by decide) rfl ?_
        exact Steps.refl _)
      have c10 : Steps p.tables e below (s₁.setTop (entryFrame m #[.ref b, .int (Int32.ofNat o), .ref d, .int (Int32.ofNat q), .int (Int32.ofNat len)] 7)) (T7.setTop (mkF m 3 #[.val (.ref b), .val (.int (Int32.ofNat (o + (i + 1)))), .val (.ref d), .val (.int (Int32.ofNat (q + (i + 1)))), .val (.int (Int32.ofNat len)), .val (.int (Int32.ofNat (i + 1))), .val (.int (cv A (o + i)))] [])) := by
        have := c9
        rw [succ32, succ32, succ32] at this
        exact this
      exact ih (i + 1) (by omega) _ (Or.inr ⟨_, rfl, rfl⟩) T7 _ (by rw [copyLocs_step, ← List.append_assoc]; exact X7) (pl.trans p7) (fl.step (by omega) hlt (by simp)) c10
  obtain ⟨T9, B9, z9, X9, p9, f9, g9⟩ := loop len 0 (by omega) .unset (Or.inl rfl) s₁ B (by simpa [copyLocs] using X0) ⟨hB0.1, fun _ _ => rfl, rfl⟩ (Laid.zero _ _ _) c2
  have c11 : Steps p.tables e below (s₁.setTop (entryFrame m #[.ref b, .int (Int32.ofNat o), .ref d, .int (Int32.ofNat q), .int (Int32.ofNat len)] 7)) (T9.setTop (mkF m 46 #[.val (.ref b), .val (.int (Int32.ofNat (o + len))), .val (.ref d), .val (.int (Int32.ofNat (q + len))), .val (.int (Int32.ofNat len)), .val (.int (Int32.ofNat len)), z9] [.int (Int32.ofNat len)])) := g9.trans (by
    refine XS.iload X9.here hexec rfl (hb hbytes d3) rfl ?_
    refine XS.iload X9.here hexec rfl (hb hbytes d5) rfl ?_
    refine XS.icmpYes X9.here hexec rfl (pc0 := 7) rfl (hb hbytes d7) rfl (ii_ge_t (nlt32 (by omega) (Nat.le_refl _))) (by decide) rfl ?_
    refine XS.iload X9.here hexec rfl (hb hbytes d44) rfl ?_
    exact Steps.refl _)
  exact ⟨T9, some (.int (Int32.ofNat len)), _, _, _, X9, by simp, rfl, rfl, (fun h => by cases h), ⟨rfl, B9, p9.from hh0, f9⟩, fun fs hl => c11.trans (X9.ireturnOut hexec hret rfl (Or.inl rfl) (hb hbytes d46) hl)⟩
end Cmp5
namespace Cmp3
def yN : MethodName := ⟨"java/lang/StringUTF16", "compress", "([CII)[B"⟩
abbrev yB : ByteArray := jdk_52_method_16_code
theorem d0 : decode yB 0 = .ok (.iload_n 2, 1) := by decide +kernel
theorem d1 : decode yB 1 = .ok (.newarray .byte, 2) := by decide +kernel
theorem d3 : decode yB 3 = .ok (.astore_n 3, 1) := by decide +kernel
theorem d4 : decode yB 4 = .ok (.aload_n 0, 1) := by decide +kernel
theorem d5 : decode yB 5 = .ok (.iload_n 1, 1) := by decide +kernel
theorem d6 : decode yB 6 = .ok (.aload_n 3, 1) := by decide +kernel
theorem d7 : decode yB 7 = .ok (.iconst 0, 1) := by decide +kernel
theorem d8 : decode yB 8 = .ok (.iload_n 2, 1) := by decide +kernel
theorem d9 : decode yB 9 = .ok (.invokestatic 115, 3) := by decide +kernel
theorem d12 : decode yB 12 = .ok (.istore 4, 2) := by decide +kernel
theorem d14 : decode yB 14 = .ok (.iload 4, 2) := by decide +kernel
theorem d16 : decode yB 16 = .ok (.iload_n 2, 1) := by decide +kernel
theorem d17 : decode yB 17 = .ok (.if_icmp (.eq) 40, 3) := by decide +kernel
theorem d57 : decode yB 57 = .ok (.aload_n 3, 1) := by decide +kernel
theorem d58 : decode yB 58 = .ok (.areturn, 1) := by decide +kernel
def site : List Cond := [.arrayClass .byte, Cmp5.tab] ++ staticW U16 115 Cmp5.yN
def tab : Cond := tabOf yN yB 6 (some (.array .byte)) site
def P (b : Addr) (A : Cell) (o len : Nat) (args : Array Value) (s : State) : Prop := args = #[.ref b, .int (Int32.ofNat o), .int (Int32.ofNat len)] ∧ Ch b A s ∧ o + len ≤ A.slots.size ∧ len ≤ 536870912 ∧ ∀ i, i < len → ¬ 255 < cv A (o + i)
def E (b : Addr) (A : Cell) (o len : Nat) (r : Option Value) (s u : State) : Prop := NewArr .byte "[B" len (fun j => .int (lo8 (cv A (o + j)))) r s u ∧ u.heap.size = s.heap.size + 1
/-- no char of the range above 255: a new byte[] of their low bytes -/
theorem law (l : Launch) (b : Addr) (A : Cell) (o len : Nat) : Law l yN 3 3 1 18 yB 6 (some (.array .byte)) site (P b A o len) (E b A o len) [] 1 len := by
  refine Law.of_walk (plainFor_of_name (by decide +kernel)) (by decide +kernel) (by decide +kernel) (by decide) (fun _ _ h => by rw [h.1]; rfl) (fun _ U U' hal hh h => ⟨h.1, h.2.1.mv hal hh, h.2.2⟩) (fun r U U' V V' h1 hal h2 h => ⟨NewArr.mv r U U' V V' h1 hal h2 h.1, by rw [h1, h2]; exact h.2⟩) ?_
  intro p e s m args below meth c s₁ X0 hexec hbytes hml hret hlk hnm hown hh0 W hP
  obtain ⟨rfl, hA, l1, l2, hp⟩ := hP
  have a31 := hA.1.2.2.2
  have c1 : Steps p.tables e below (s₁.setTop (entryFrame m #[.ref b, .int (Int32.ofNat o), .int (Int32.ofNat len)] 6)) (s₁.setTop (mkF m 0 #[.val (.ref b), .val (.int (Int32.ofNat o)), .val (.int (Int32.ofNat len)), .unset, .unset, .unset] [])) := entry rfl
  have c2 : Steps p.tables e below (s₁.setTop (entryFrame m #[.ref b, .int (Int32.ofNat o), .int (Int32.ofNat len)] 6)) (s₁.setTop (mkF m 1 #[.val (.ref b), .val (.int (Int32.ofNat o)), .val (.int (Int32.ofNat len)), .unset, .unset, .unset] [.int (Int32.ofNat len)])) := c1.trans (by
    refine XS.iloadN X0.here hexec rfl (hb hbytes d0) rfl ?_
    exact Steps.refl _)
  obtain ⟨T3, B3, X3, ba3, bs3, bv3, bh3, bf3, st3⟩ := X0.anew hexec (atype := .byte) (wk W (.arrayClass .byte)) rfl (by show len * 1 ≤ _; omega) (by omega) (g := (mkF m 1 #[.val (.ref b), .val (.int (Int32.ofNat o)), .val (.int (Int32.ofNat len)), .unset, .unset, .unset] [.int (Int32.ofNat len)])) rfl (hb hbytes d1) (rest := []) rfl (Nat.le_refl _) (by show 0 + len ≤ len; omega)
  rw [hh0] at ba3 st3
  have kp3 : XT.Kept s T3 := (XT.Kept.of_eq hh0).push bh3
  have hA3 := hA.keep X3.warmed.alike (kp3 _ _ hA.1.1)
  have hne : b ≠ s.heap.size := hA.1.ne
  have c4 : Steps p.tables e below (s₁.setTop (entryFrame m #[.ref b, .int (Int32.ofNat o), .int (Int32.ofNat len)] 6)) (T3.setTop (mkF m 3 #[.val (.ref b), .val (.int (Int32.ofNat o)), .val (.int (Int32.ofNat len)), .unset, .unset, .unset] [.ref s.heap.size])) := c2.trans (st3 _ (Steps.refl _))
  have c5 : Steps p.tables e below (s₁.setTop (entryFrame m #[.ref b, .int (Int32.ofNat o), .int (Int32.ofNat len)] 6)) (T3.setTop (mkF m 9 #[.val (.ref b), .val (.int (Int32.ofNat o)), .val (.int (Int32.ofNat len)), .val (.ref s.heap.size), .unset, .unset] [.int (Int32.ofNat len), .int 0, .ref s.heap.size, .int (Int32.ofNat o), .ref b])) := c4.trans (by
    refine XS.astoreN X3.here hexec rfl (hb hbytes d3) rfl rfl rfl ?_
    refine XS.aloadN X3.here hexec rfl (hb hbytes d4) rfl rfl ?_
    refine XS.iloadN X3.here hexec rfl (hb hbytes d5) rfl ?_
    refine XS.aloadN X3.here hexec rfl (hb hbytes d6) rfl rfl ?_
    refine iconstV X3.here hexec rfl 0 (hb hbytes d7) (by decide) ?_
    refine XS.iloadN X3.here hexec rfl (hb hbytes d8) rfl ?_
    exact Steps.refl _)
  obtain ⟨v6, T6, X6, E6, g6⟩ := X3.callS hexec (Cmp5.law l b A s.heap.size B3 o 0 len) hown (wks W (staticW U16 115 Cmp5.yN)) (wk W Cmp5.tab) (W := 0) (Nat.le_of_ble_eq_true rfl) (Nat.le_of_ble_eq_true rfl) (Nat.le_refl _) (by show 0 + len + 0 ≤ len; omega) (g := (mkF m 9 #[.val (.ref b), .val (.int (Int32.ofNat o)), .val (.int (Int32.ofNat len)), .val (.ref s.heap.size), .unset, .unset] [.int (Int32.ofNat len), .int (Int32.ofNat 0), .ref s.heap.size, .int (Int32.ofNat o), .ref b])) rfl (by rw [hml]; rfl) c5 (argsL := [.ref b, .int (Int32.ofNat o), .ref s.heap.size, .int (Int32.ofNat 0), .int (Int32.ofNat len)]) (rest := []) rfl rfl (by show 2 * 0 + 0 ≤ _; decide) (hb hbytes d9) (⟨rfl, hA3, ba3, hne, l1, by rw [bs3]; simp, hp⟩)
  obtain ⟨rfl, B6, p6, f6⟩ := E6
  have c7 : Steps p.tables e below (s₁.setTop (entryFrame m #[.ref b, .int (Int32.ofNat o), .int (Int32.ofNat len)] 6)) (T6.setTop (mkF m 12 #[.val (.ref b), .val (.int (Int32.ofNat o)), .val (.int (Int32.ofNat len)), .val (.ref s.heap.size), .unset, .unset] [.int (Int32.ofNat len)])) := g6
  have c8 : Steps p.tables e below (s₁.setTop (entryFrame m #[.ref b, .int (Int32.ofNat o), .int (Int32.ofNat len)] 6)) (T6.setTop (mkF m 58 #[.val (.ref b), .val (.int (Int32.ofNat o)), .val (.int (Int32.ofNat len)), .val (.ref s.heap.size), .val (.int (Int32.ofNat len)), .unset] [.ref s.heap.size])) := c7.trans (by
    refine XS.istore X6.here hexec rfl (hb hbytes d12) rfl rfl ?_
    refine XS.iload X6.here hexec rfl (hb hbytes d14) rfl ?_
    refine XS.iloadN X6.here hexec rfl (hb hbytes d16) rfl ?_
    refine XS.icmpYes X6.here hexec rfl (pc0 := 17) rfl (hb hbytes d17) rfl (ii_eq_t rfl) (by decide) rfl ?_
    refine XS.aloadN X6.here hexec rfl (hb hbytes d57) rfl rfl ?_
    exact Steps.refl _)
  have X8 := X6.wide (L' := []) (cells' := 1) (slots' := len) (fun x hx hlt => by
    simp only [List.nil_append, copyLocs, List.mem_map, List.mem_range] at hx
    obtain ⟨i, -, rfl⟩ := hx
    exact absurd hlt (Nat.lt_irrefl _)) (Nat.le_refl _) (by omega)
  exact ⟨T6, some (.ref s.heap.size), _, _, _, X8, rfl, rfl, rfl, (fun h => by cases h), ⟨⟨rfl, B6, ba3.like (X3.warmed.alike.symm.trans X6.warmed.alike) p6.1 f6.1 f6.2.1 f6.2.2.1, f6.2.1.trans bv3, by rw [X6.warmed.alike.findClass, f6.1]; exact bf3, by rw [f6.2.2.1, bs3]; simp, fun j hj => by rw [f6.2.2.2 j, if_pos (by omega)]; rfl, kp3.put p6 (Nat.le_refl _)⟩, by rw [p6.2.2, bh3, hh0]; simp⟩, fun fs hl => c8.trans (X8.areturnOut hexec rfl hret rfl (hb hbytes d58) hl)⟩
end Cmp3
namespace CodL
def yN : MethodName := ⟨"java/lang/StringUTF16", "coderFromArrayLen", "([BI)B"⟩
abbrev yB : ByteArray := jdk_52_method_15_code
theorem d0 : decode yB 0 = .ok (.iload_n 1, 1) := by decide +kernel
theorem d1 : decode yB 1 = .ok (.aload_n 0, 1) := by decide +kernel
theorem d2 : decode yB 2 = .ok (.arraylength, 1) := by decide +kernel
theorem d3 : decode yB 3 = .ok (.isub, 1) := by decide +kernel
theorem d4 : decode yB 4 = .ok (.bipush 31, 2) := by decide +kernel
theorem d6 : decode yB 6 = .ok (.iushr, 1) := by decide +kernel
theorem d7 : decode yB 7 = .ok (.i2b, 1) := by decide +kernel
theorem d8 : decode yB 8 = .ok (.ireturn, 1) := by decide +kernel
def site : List Cond := []
def tab : Cond := tabOf yN yB 2 (some .byte) site
def P (d : Addr) (B : Cell) (args : Array Value) (s : State) : Prop := args = #[.ref d, .int (Int32.ofNat B.slots.size)] ∧ Arr .byte d B s
def E (r : Option Value) (s u : State) : Prop := XT.PureE (some (.int 0)) r s u
/-- an array as long as the number of chars: LATIN1 -/
theorem law (l : Launch) (d : Addr) (B : Cell) : Law l yN 2 2 0 0 yB 2 (some .byte) site (P d B) E [] 0 0 := by
  refine Law.of_walk (plainFor_of_name (by decide +kernel)) (by decide +kernel) (by decide +kernel) (by decide) (fun _ _ h => by rw [h.1]; rfl) (fun _ U U' hal hh h => ⟨h.1, h.2.mv hal hh⟩) (fun r U U' V V' h1 hal h2 h => XT.PureE.mv r U U' V V' h1 hal h2 h) ?_
  intro p e s m args below meth c s₁ X0 hexec hbytes hml hret hlk hnm hown hh0 W hP
  obtain ⟨rfl, hB⟩ := hP
  have hB0 := hB.mv X0.warmed.alike hh0
  have c1 : Steps p.tables e below (s₁.setTop (entryFrame m #[.ref d, .int (Int32.ofNat B.slots.size)] 2)) (s₁.setTop (mkF m 0 #[.val (.ref d), .val (.int (Int32.ofNat B.slots.size))] [])) := entry rfl
  have c2 : Steps p.tables e below (s₁.setTop (entryFrame m #[.ref d, .int (Int32.ofNat B.slots.size)] 2)) (s₁.setTop (mkF m 2 #[.val (.ref d), .val (.int (Int32.ofNat B.slots.size))] [.ref d, .int (Int32.ofNat B.slots.size)])) := c1.trans (by
    refine XS.iloadN X0.here hexec rfl (hb hbytes d0) rfl ?_
    refine XS.aloadN X0.here hexec rfl (hb hbytes d1) rfl rfl ?_
    exact Steps.refl _)
  have c3 : Steps p.tables e below (s₁.setTop (entryFrame m #[.ref d, .int (Int32.ofNat B.slots.size)] 2)) (s₁.setTop (mkF m 8 #[.val (.ref d), .val (.int (Int32.ofNat B.slots.size))] [.int (lo8 (ushr (Int32.ofNat B.slots.size - Int32.ofNat B.slots.size) 31))])) := c2.trans (by
    refine X0.alen hexec hB0 rfl rfl (hb hbytes d2) ?_
    refine XS.isub X0.here hexec rfl (hb hbytes d3) rfl ?_
    refine bipushV X0.here hexec rfl 31 (hb hbytes d4) (by decide) ?_
    refine iushr X0.here hexec rfl (hb hbytes d6) rfl ?_
    refine i2b X0.here hexec rfl (hb hbytes d7) rfl ?_
    exact Steps.refl _)
  have e0 : lo8 (ushr (Int32.ofNat B.slots.size - Int32.ofNat B.slots.size) 31) = 0 := by rw [Int32.sub_self]; decide
  rw [e0] at c3
  exact ⟨s₁, some (.int 0), _, _, _, X0, rfl, rfl, rfl, (fun h => by cases h), ⟨rfl, hh0⟩, fun fs hl => c3.trans (X0.ireturnOut hexec hret rfl (Or.inr (Or.inr (Or.inl rfl))) (hb hbytes d8) hl)⟩
end CodL
/-- the String at a is Latin-1 over a new byte[] (the heap's one new cell): the low bytes of the len chars of A from o on; every cell but a is kept -/
def Got (a : Addr) (D : Cell) (fV fC : Field) (A : Cell) (o len : Nat) (r : Option Value) (s u : State) : Prop := r = none ∧ ∃ D' V : Cell, Blank "java/lang/String" a D' u ∧ Same D D' [fV.slot, fC.slot] ∧ D'.slots[fV.slot]? = some (.ref s.heap.size) ∧ D'.slots[fC.slot]? = some (.int 0) ∧ Arr .byte s.heap.size V u ∧ V.vm = .none ∧ u.vm.findClass "[B" = some V.cls ∧ V.slots.size = len ∧ (∀ j, j < len → V.slots[j]? = some (.int (lo8 (cv A (o + j))))) ∧ (∀ (y : Addr) (c : Cell), y ≠ a → s.heap[y]? = some c → u.heap[y]? = some c) ∧ u.heap.size = s.heap.size + 1
theorem Got.mv {a : Addr} {D A : Cell} {fV fC : Field} {o len : Nat} : ∀ r (U U' V V' : State), U'.heap = U.heap → V.vm.Alike V'.vm → V'.heap = V.heap → Got a D fV fC A o len r U V → Got a D fV fC A o len r U' V' :=
  fun r U U' V V' h1 hal h2 ⟨e0, D', X, a1, a2, a3, a4, a5, a6, a7, a8, a9, a10, a11⟩ => ⟨e0, D', X, a1.mv hal h2, a2, by rw [h1]; exact a3, a4, by rw [h1]; exact a5.mv hal h2, a6, by rw [hal.findClass]; exact a7, a8, a9, by rw [h1, h2]; exact a10, by rw [h1, h2]; exact a11⟩
namespace New4
def yN : MethodName := ⟨"java/lang/String", "<init>", "([CIILjava/lang/Void;)V"⟩
abbrev yB : ByteArray := jdk_42_method_149_code
theorem d0 : decode yB 0 = .ok (.aload_n 0, 1) := by decide +kernel
theorem d1 : decode yB 1 = .ok (.invokespecial 1, 3) := by decide +kernel
theorem d4 : decode yB 4 = .ok (.iload_n 3, 1) := by decide +kernel
theorem d5 : decode yB 5 = .ok (.ifCond (.ne) 22, 3) := by decide +kernel
theorem d27 : decode yB 27 = .ok (.getstatic 38, 3) := by decide +kernel
theorem d30 : decode yB 30 = .ok (.ifCond (.eq) 28, 3) := by decide +kernel
theorem d33 : decode yB 33 = .ok (.aload_n 1, 1) := by decide +kernel
theorem d34 : decode yB 34 = .ok (.iload_n 2, 1) := by decide +kernel
theorem d35 : decode yB 35 = .ok (.iload_n 3, 1) := by decide +kernel
theorem d36 : decode yB 36 = .ok (.invokestatic 177, 3) := by decide +kernel
theorem d39 : decode yB 39 = .ok (.astore 5, 2) := by decide +kernel
theorem d41 : decode yB 41 = .ok (.aload_n 0, 1) := by decide +kernel
theorem d42 : decode yB 42 = .ok (.aload 5, 2) := by decide +kernel
theorem d44 : decode yB 44 = .ok (.iload_n 3, 1) := by decide +kernel
theorem d45 : decode yB 45 = .ok (.invokestatic 47, 3) := by decide +kernel
theorem d48 : decode yB 48 = .ok (.putfield 15, 3) := by decide +kernel
theorem d51 : decode yB 51 = .ok (.aload_n 0, 1) := by decide +kernel
theorem d52 : decode yB 52 = .ok (.aload 5, 2) := by decide +kernel
theorem d54 : decode yB 54 = .ok (.putfield 9, 3) := by decide +kernel
theorem d57 : decode yB 57 = .ok (.return_, 1) := by decide +kernel
def site : List Cond := [.fieldLink "java/lang/String" 38 "java/lang/String" "COMPACT_STRINGS" "Z", Cmp3.tab, CodL.tab, .laysFinal "java/lang/String" "java/lang/String" "value" "[B", .fieldLink "java/lang/String" 9 "java/lang/String" "value" "[B", .laysFinal "java/lang/String" "java/lang/String" "coder" "B", .fieldLink "java/lang/String" 15 "java/lang/String" "coder" "B"] ++ objW "java/lang/String" 1 ++ staticW "java/lang/String" 177 Cmp3.yN ++ staticW "java/lang/String" 47 CodL.yN
def tab : Cond := tabOf yN yB 6 none site
def P (a : Addr) (D : Cell) (fV fC : Field) (b : Addr) (A : Cell) (z : Int32) (o len : Nat) (args : Array Value) (s : State) : Prop := args = #[.ref a, .ref b, .int (Int32.ofNat o), .int (Int32.ofNat len), .null] ∧ Blank "java/lang/String" a D s ∧ Found "java/lang/String" "value" "[B" fV s ∧ Found "java/lang/String" "coder" "B" fC s ∧ Ch b A s ∧ StaticIs s "java/lang/String" "COMPACT_STRINGS" "Z" (.int z) ∧ ¬ z = 0 ∧ 0 < len ∧ o + len ≤ A.slots.size ∧ len ≤ 536870912 ∧ ∀ i, i < len → ¬ 255 < cv A (o + i)
def E (a : Addr) (D : Cell) (fV fC : Field) (A : Cell) (o len : Nat) (r : Option Value) (s u : State) : Prop := Got a D fV fC A o len r s u
/-- len > 0, no char of the range above 255: a Latin-1 String of their low bytes -/
theorem law (l : Launch) (a : Addr) (D : Cell) (fV fC : Field) (b : Addr) (A : Cell) (z : Int32) (o len : Nat) : Law l yN 5 4 2 35 yB 6 none site (P a D fV fC b A z o len) (E a D fV fC A o len) [⟨a, fC.slot⟩, ⟨a, fV.slot⟩] 1 len := by
  refine Law.of_walk (plainFor_of_name (by decide +kernel)) (by decide +kernel) (by decide +kernel) (by decide) (fun _ _ h => by rw [h.1]; rfl) (fun _ U U' hal hh h => ⟨h.1, h.2.1.mv hal hh, h.2.2.1.al hal, h.2.2.2.1.al hal, h.2.2.2.2.1.mv hal hh, h.2.2.2.2.2.1.there hal hh, h.2.2.2.2.2.2⟩) (fun r U U' V V' h1 hal h2 h => Got.mv r U U' V V' h1 hal h2 h) ?_
  intro p e s m args below meth c s₁ X0 hexec hbytes hml hret hlk hnm hown hh0 W hP
  obtain ⟨rfl, hB, f1, f2, hA, s1, hz, l0, l1, l2, hp⟩ := hP
  have a31 := hA.1.2.2.2
  have c1 : Steps p.tables e below (s₁.setTop (entryFrame m #[.ref a, .ref b, .int (Int32.ofNat o), .int (Int32.ofNat len), .null] 6)) (s₁.setTop (mkF m 0 #[.val (.ref a), .val (.ref b), .val (.int (Int32.ofNat o)), .val (.int (Int32.ofNat len)), .val .null, .unset] [])) := entry rfl
  have c2 : Steps p.tables e below (s₁.setTop (entryFrame m #[.ref a, .ref b, .int (Int32.ofNat o), .int (Int32.ofNat len), .null] 6)) (s₁.setTop (mkF m 1 #[.val (.ref a), .val (.ref b), .val (.int (Int32.ofNat o)), .val (.int (Int32.ofNat len)), .val .null, .unset] [.ref a])) := c1.trans (by
    refine XS.aloadN X0.here hexec rfl (hb hbytes d0) rfl rfl ?_
    exact Steps.refl _)
  obtain ⟨T3, X3, q3, st3⟩ := X0.oinit hexec hown (wks W (objW "java/lang/String" 1)) (g := (mkF m 1 #[.val (.ref a), .val (.ref b), .val (.int (Int32.ofNat o)), .val (.int (Int32.ofNat len)), .val .null, .unset] [.ref a])) rfl (by rw [hml]; rfl) (rest := []) rfl (hb hbytes d1) (W := 0) (by show 2 * 0 + 0 ≤ _; decide) (Nat.le_of_ble_eq_true rfl) (Nat.le_of_ble_eq_true rfl)
  have hh3 := q3.trans hh0
  have c4 : Steps p.tables e below (s₁.setTop (entryFrame m #[.ref a, .ref b, .int (Int32.ofNat o), .int (Int32.ofNat len), .null] 6)) (T3.setTop (mkF m 27 #[.val (.ref a), .val (.ref b), .val (.int (Int32.ofNat o)), .val (.int (Int32.ofNat len)), .val .null, .unset] [])) := (c2.trans (st3 _ (Steps.refl _))).trans (by
    refine XS.iloadN X3.here hexec rfl (hb hbytes d4) rfl ?_
    refine XS.ifYes X3.here hexec rfl (pc0 := 5) rfl (hb hbytes d5) rfl (i0_ne_t (nz32 (by omega) l0)) (by decide) rfl ?_
    exact Steps.refl _)
  obtain ⟨T5, X5, q5, st5⟩ := X3.sget hexec hown (wk W (.fieldLink "java/lang/String" 38 "java/lang/String" "COMPACT_STRINGS" "Z")) s1 (fun _ _ h => by rw [hh3]; exact h) (g := (mkF m 27 #[.val (.ref a), .val (.ref b), .val (.int (Int32.ofNat o)), .val (.int (Int32.ofNat len)), .val .null, .unset] [])) rfl (hb hbytes d27)
  have hh5 := q5.trans hh3
  have c6 : Steps p.tables e below (s₁.setTop (entryFrame m #[.ref a, .ref b, .int (Int32.ofNat o), .int (Int32.ofNat len), .null] 6)) (T5.setTop (mkF m 30 #[.val (.ref a), .val (.ref b), .val (.int (Int32.ofNat o)), .val (.int (Int32.ofNat len)), .val .null, .unset] [.int z])) := c4.trans (st5 _ (Steps.refl _))
  have c7 : Steps p.tables e below (s₁.setTop (entryFrame m #[.ref a, .ref b, .int (Int32.ofNat o), .int (Int32.ofNat len), .null] 6)) (T5.setTop (mkF m 36 #[.val (.ref a), .val (.ref b), .val (.int (Int32.ofNat o)), .val (.int (Int32.ofNat len)), .val .null, .unset] [.int (Int32.ofNat len), .int (Int32.ofNat o), .ref b])) := c6.trans (by
    refine XS.ifNo X5.here hexec rfl (hb hbytes d30) rfl (i0_eq_f hz) ?_
    refine XS.aloadN X5.here hexec rfl (hb hbytes d33) rfl rfl ?_
    refine XS.iloadN X5.here hexec rfl (hb hbytes d34) rfl ?_
    refine XS.iloadN X5.here hexec rfl (hb hbytes d35) rfl ?_
    exact Steps.refl _)
  obtain ⟨v8, T8, X8, E8, g8⟩ := X5.callS hexec (Cmp3.law l b A o len) hown (wks W (staticW "java/lang/String" 177 Cmp3.yN)) (wk W Cmp3.tab) (W := 0) (Nat.le_of_ble_eq_true rfl) (Nat.le_of_ble_eq_true rfl) (Nat.le_refl _) (by show 0 + len ≤ len; omega) (g := (mkF m 36 #[.val (.ref a), .val (.ref b), .val (.int (Int32.ofNat o)), .val (.int (Int32.ofNat len)), .val .null, .unset] [.int (Int32.ofNat len), .int (Int32.ofNat o), .ref b])) rfl (by rw [hml]; rfl) c7 (argsL := [.ref b, .int (Int32.ofNat o), .int (Int32.ofNat len)]) (rest := []) rfl rfl (by show 2 * 0 + 0 ≤ _; decide) (hb hbytes d36) (⟨rfl, hA.mv X5.warmed.alike hh5, l1, l2, hp⟩)
  obtain ⟨e8, z8⟩ := E8
  obtain ⟨rfl, N, n1, n2, n3, n4, n5, n6⟩ := NewArr.mv _ T5 s _ _ hh5.symm (Vm.Alike.refl _) rfl e8
  rw [hh5] at z8
  have hB1 := hB.keep X8.warmed.alike (n6 _ _ hB.1)
  have hne : s.heap.size ≠ a := (Nat.ne_of_lt (Array.getElem?_eq_some_iff.mp hB.1).1).symm
  have c9 : Steps p.tables e below (s₁.setTop (entryFrame m #[.ref a, .ref b, .int (Int32.ofNat o), .int (Int32.ofNat len), .null] 6)) (T8.setTop (mkF m 39 #[.val (.ref a), .val (.ref b), .val (.int (Int32.ofNat o)), .val (.int (Int32.ofNat len)), .val .null, .unset] [.ref s.heap.size])) := g8
  have c10 : Steps p.tables e below (s₁.setTop (entryFrame m #[.ref a, .ref b, .int (Int32.ofNat o), .int (Int32.ofNat len), .null] 6)) (T8.setTop (mkF m 45 #[.val (.ref a), .val (.ref b), .val (.int (Int32.ofNat o)), .val (.int (Int32.ofNat len)), .val .null, .val (.ref s.heap.size)] [.int (Int32.ofNat N.slots.size), .ref s.heap.size, .ref a])) := by
    have hc : Steps p.tables e below (s₁.setTop (entryFrame m #[.ref a, .ref b, .int (Int32.ofNat o), .int (Int32.ofNat len), .null] 6)) (T8.setTop (mkF m 45 #[.val (.ref a), .val (.ref b), .val (.int (Int32.ofNat o)), .val (.int (Int32.ofNat len)), .val .null, .val (.ref s.heap.size)] [.int (Int32.ofNat len), .ref s.heap.size, .ref a])) := c9.trans (by
      refine XS.astore X8.here hexec rfl (hb hbytes d39) rfl rfl rfl ?_
      refine XS.aloadN X8.here hexec rfl (hb hbytes d41) rfl rfl ?_
      refine XS.aload X8.here hexec rfl (hb hbytes d42) rfl rfl ?_
      refine XS.iloadN X8.here hexec rfl (hb hbytes d44) rfl ?_
      exact Steps.refl _)
    rw [n4]; exact hc
  obtain ⟨v11, T11, X11, E11, g11⟩ := X8.callS hexec (CodL.law l s.heap.size N) hown (wks W (staticW "java/lang/String" 47 CodL.yN)) (wk W CodL.tab) (W := 1) (Nat.le_of_ble_eq_true rfl) (Nat.le_of_ble_eq_true rfl) (Nat.le_refl _) (by show 0 + len + 0 ≤ len; omega) (g := (mkF m 45 #[.val (.ref a), .val (.ref b), .val (.int (Int32.ofNat o)), .val (.int (Int32.ofNat len)), .val .null, .val (.ref s.heap.size)] [.int (Int32.ofNat N.slots.size), .ref s.heap.size, .ref a])) rfl (by rw [hml]; rfl) c10 (argsL := [.ref s.heap.size, .int (Int32.ofNat N.slots.size)]) (rest := [.ref a]) rfl rfl (by show 2 * 0 + (1 + 0) ≤ _; decide) (hb hbytes d45) (⟨rfl, n1⟩)
  obtain ⟨rfl, q11⟩ := E11
  have hB11 := hB1.mv (X8.warmed.alike.symm.trans X11.warmed.alike) q11
  have c12 : Steps p.tables e below (s₁.setTop (entryFrame m #[.ref a, .ref b, .int (Int32.ofNat o), .int (Int32.ofNat len), .null] 6)) (T11.setTop (mkF m 48 #[.val (.ref a), .val (.ref b), .val (.int (Int32.ofNat o)), .val (.int (Int32.ofNat len)), .val .null, .val (.ref s.heap.size)] [.int 0, .ref a])) := g11
  obtain ⟨T13, X13, p13, bl13, sl13, st13⟩ := X11.finit hexec hown (wk W (.fieldLink "java/lang/String" 15 "java/lang/String" "coder" "B")) (Or.inr ⟨_, (wk W (.laysFinal "java/lang/String" "java/lang/String" "coder" "B"))⟩) (Or.inl ⟨rfl, hnm⟩) f2 (Or.inl rfl) hB11 (t := .byte) (by decide +kernel) rfl (g := (mkF m 48 #[.val (.ref a), .val (.ref b), .val (.int (Int32.ofNat o)), .val (.int (Int32.ofNat len)), .val .null, .val (.ref s.heap.size)] [.int 0, .ref a])) rfl (rest := []) rfl (hb hbytes d48)
  have c14 : Steps p.tables e below (s₁.setTop (entryFrame m #[.ref a, .ref b, .int (Int32.ofNat o), .int (Int32.ofNat len), .null] 6)) (T13.setTop (mkF m 54 #[.val (.ref a), .val (.ref b), .val (.int (Int32.ofNat o)), .val (.int (Int32.ofNat len)), .val .null, .val (.ref s.heap.size)] [.ref s.heap.size, .ref a])) := (c12.trans (st13 _ (Steps.refl _))).trans (by
    refine XS.aloadN X13.here hexec rfl (hb hbytes d51) rfl rfl ?_
    refine XS.aload X13.here hexec rfl (hb hbytes d52) rfl rfl ?_
    exact Steps.refl _)
  obtain ⟨T15, X15, p15, bl15, sl15, st15⟩ := X13.finit hexec hown (wk W (.fieldLink "java/lang/String" 9 "java/lang/String" "value" "[B")) (Or.inr ⟨_, (wk W (.laysFinal "java/lang/String" "java/lang/String" "value" "[B"))⟩) (Or.inl ⟨rfl, hnm⟩) f1 (Or.inl rfl) bl13 (t := (.array .byte)) (by decide +kernel) rfl (g := (mkF m 54 #[.val (.ref a), .val (.ref b), .val (.int (Int32.ofNat o)), .val (.int (Int32.ofNat len)), .val .null, .val (.ref s.heap.size)] [.ref s.heap.size, .ref a])) rfl (rest := []) rfl (hb hbytes d54)
  have c16 : Steps p.tables e below (s₁.setTop (entryFrame m #[.ref a, .ref b, .int (Int32.ofNat o), .int (Int32.ofNat len), .null] 6)) (T15.setTop (mkF m 57 #[.val (.ref a), .val (.ref b), .val (.int (Int32.ofNat o)), .val (.int (Int32.ofNat len)), .val .null, .val (.ref s.heap.size)] [])) := c14.trans (st15 _ (Steps.refl _))
  have ap := apart (Or.inr ⟨_, (wk W (.laysFinal "java/lang/String" "java/lang/String" "value" "[B"))⟩) (Or.inr ⟨_, (wk W (.laysFinal "java/lang/String" "java/lang/String" "coder" "B"))⟩) f1 f2 (t₁ := .array .byte) (t₂ := .byte) (by decide +kernel) (by decide +kernel) (by decide)
  have al := X8.warmed.alike.symm.trans X15.warmed.alike
  have n7 : T11.heap[s.heap.size]? = some N := by rw [q11]; exact n1.1
  exact ⟨T15, none, _, _, _, X15, by simp, rfl, by omega, (fun _ => rfl), ⟨rfl, _, N, bl15, ((Same.refl D _).set _ (by simp)).set _ (by simp), sl15, (Cell.slots_setSlot_ne _ ap).trans sl13, n1.keep al (p15.other hne (p13.other hne n7)), n2, by rw [al.findClass]; exact n3, n4, n5, fun y c h1 h2 => p15.other h1 (p13.other h1 (by rw [q11]; exact n6 y c h2)), by rw [p15.2.2, p13.2.2, q11]; exact z8⟩, fun fs hl => c16.trans (X15.returnOut hexec hret (hb hbytes d57) hl)⟩
end New4
namespace New1
def yN : MethodName := ⟨"java/lang/String", "<init>", "([C)V"⟩
abbrev yB : ByteArray := jdk_42_method_3_code
theorem d0 : decode yB 0 = .ok (.aload_n 0, 1) := by decide +kernel
theorem d1 : decode yB 1 = .ok (.aload_n 1, 1) := by decide +kernel
theorem d2 : decode yB 2 = .ok (.iconst 0, 1) := by decide +kernel
theorem d3 : decode yB 3 = .ok (.aload_n 1, 1) := by decide +kernel
theorem d4 : decode yB 4 = .ok (.arraylength, 1) := by decide +kernel
theorem d5 : decode yB 5 = .ok (.aconst_null, 1) := by decide +kernel
theorem d6 : decode yB 6 = .ok (.invokespecial 27, 3) := by decide +kernel
theorem d9 : decode yB 9 = .ok (.return_, 1) := by decide +kernel
def site : List Cond := [New4.tab] ++ initW "java/lang/String" 27 New4.yN
def tab : Cond := tabOf yN yB 2 none site
def P (a : Addr) (D : Cell) (fV fC : Field) (b : Addr) (A : Cell) (z : Int32) (args : Array Value) (s : State) : Prop := args = #[.ref a, .ref b] ∧ Blank "java/lang/String" a D s ∧ Found "java/lang/String" "value" "[B" fV s ∧ Found "java/lang/String" "coder" "B" fC s ∧ Ch b A s ∧ StaticIs s "java/lang/String" "COMPACT_STRINGS" "Z" (.int z) ∧ ¬ z = 0 ∧ 0 < A.slots.size ∧ A.slots.size ≤ 536870912 ∧ ∀ i, i < A.slots.size → ¬ 255 < cv A i
def E (a : Addr) (D : Cell) (fV fC : Field) (A : Cell) (r : Option Value) (s u : State) : Prop := Got a D fV fC A 0 A.slots.size r s u
/-- new String(chars), not empty, no char above 255: a Latin-1 String of their low bytes -/
theorem law (l : Launch) (a : Addr) (D : Cell) (fV fC : Field) (b : Addr) (A : Cell) (z : Int32) : Law l yN 2 1 3 52 yB 2 none site (P a D fV fC b A z) (E a D fV fC A) [⟨a, fC.slot⟩, ⟨a, fV.slot⟩] 1 A.slots.size := by
  refine Law.of_walk (plainFor_of_name (by decide +kernel)) (by decide +kernel) (by decide +kernel) (by decide) (fun _ _ h => by rw [h.1]; rfl) (fun _ U U' hal hh h => ⟨h.1, h.2.1.mv hal hh, h.2.2.1.al hal, h.2.2.2.1.al hal, h.2.2.2.2.1.mv hal hh, h.2.2.2.2.2.1.there hal hh, h.2.2.2.2.2.2⟩) (fun r U U' V V' h1 hal h2 h => Got.mv r U U' V V' h1 hal h2 h) ?_
  intro p e s m args below meth c s₁ X0 hexec hbytes hml hret hlk hnm hown hh0 W hP
  obtain ⟨rfl, hB, f1, f2, hA, s1, hz, l0, l2, hp⟩ := hP
  have c1 : Steps p.tables e below (s₁.setTop (entryFrame m #[.ref a, .ref b] 2)) (s₁.setTop (mkF m 0 #[.val (.ref a), .val (.ref b)] [])) := entry rfl
  have c2 : Steps p.tables e below (s₁.setTop (entryFrame m #[.ref a, .ref b] 2)) (s₁.setTop (mkF m 6 #[.val (.ref a), .val (.ref b)] [.null, .int (Int32.ofNat A.slots.size), .int 0, .ref b, .ref a])) := c1.trans (by
    refine XS.aloadN X0.here hexec rfl (hb hbytes d0) rfl rfl ?_
    refine XS.aloadN X0.here hexec rfl (hb hbytes d1) rfl rfl ?_
    refine iconstV X0.here hexec rfl 0 (hb hbytes d2) (by decide) ?_
    refine XS.aloadN X0.here hexec rfl (hb hbytes d3) rfl rfl ?_
    refine X0.alen hexec (hA.1.mv X0.warmed.alike hh0) rfl rfl (hb hbytes d4) ?_
    refine XS.aconstNull X0.here hexec rfl (hb hbytes d5) ?_
    exact Steps.refl _)
  obtain ⟨v3, T3, X3, E3, g3⟩ := X0.callN hexec (New4.law l a D fV fC b A z 0 A.slots.size) rfl hown (wks W (initW "java/lang/String" 27 New4.yN)) (W New4.tab (by simp only [site, List.mem_cons, List.mem_append, true_or, or_true])) (W := 0) (Nat.le_of_ble_eq_true rfl) (Nat.le_of_ble_eq_true rfl) (Nat.le_refl _) (by show 0 + A.slots.size ≤ A.slots.size; omega) (g := (mkF m 6 #[.val (.ref a), .val (.ref b)] [.null, .int (Int32.ofNat A.slots.size), .int (Int32.ofNat 0), .ref b, .ref a])) rfl (by rw [hml]; rfl) c2 (argsL := [.ref b, .int (Int32.ofNat 0), .int (Int32.ofNat A.slots.size), .null]) (rest := []) rfl rfl (by show 2 * 0 + 0 ≤ _; decide) (hb hbytes d6) (⟨rfl, hB.mv X0.warmed.alike hh0, f1.al X0.warmed.alike, f2.al X0.warmed.alike, hA.mv X0.warmed.alike hh0, s1.there X0.warmed.alike hh0, hz, l0, by omega, l2, fun i hi => by rw [Nat.zero_add]; exact hp i hi⟩)
  have e0 := Got.mv _ s₁ s _ _ hh0.symm (Vm.Alike.refl _) rfl E3
  obtain rfl := e0.1
  have c4 : Steps p.tables e below (s₁.setTop (entryFrame m #[.ref a, .ref b] 2)) (T3.setTop (mkF m 9 #[.val (.ref a), .val (.ref b)] [])) := g3
  exact ⟨T3, none, _, _, _, X3, by simp, rfl, by omega, (fun _ => rfl), e0, fun fs hl => c4.trans (X3.returnOut hexec hret (hb hbytes d9) hl)⟩
theorem pays {l : Launch} {R : Room} {p : Program} {e : Env} {below : List Frame} {s : State} {sargs : Array Value} {len W : Nat} (a : Addr) (D : Cell) (fV fC : Field) (b : Addr) (A : Cell) (z : Int32) (htab : tab.before sargs s = true) (hfr : 4 ≤ R.frames) (hlo : W + 65 ≤ R.locals) :
    Back l R p e below s sargs yN len W (fun A₁ a₁ => A₁.cells + 1 ≤ R.cells ∧ A₁.slots + A.slots.size ≤ R.slots ∧ P a D fV fC b A z a₁ A₁.U) (fun A₁ _ v₁ B₁ => E a D fV fC A v₁ A₁.U B₁.U ∧ B₁.locs = A₁.locs ++ [⟨a, fC.slot⟩, ⟨a, fV.slot⟩] ∧ B₁.cells = A₁.cells + 1 ∧ B₁.slots = A₁.slots + A.slots.size) :=
  (law l a D fV fC b A z).pays htab hfr (by omega)
end New1
end StrChars
namespace StrChars.Road
open Jvm Sem ClassFile Op Lib Jvm.Stand Jvm.Free Jvm.Free.XT
open Jvm.Lib.Cold (StaticIs)
abbrev ST : String := "java/lang/String"
/-- every table word that New1's law asks, flat -/
abbrev words : List Jvm.Cond := [.code New1.yN New1.yB 2 none, .initialized ST, .methodLink ST 27 New4.yN, .instanceMethod New4.yN,
  .code New4.yN New4.yB 6 none, .fieldLink ST 38 ST "COMPACT_STRINGS" "Z", .laysFinal ST ST "value" "[B", .fieldLink ST 9 ST "value" "[B", .laysFinal ST ST "coder" "B", .fieldLink ST 15 ST "coder" "B",
  .methodLink ST 1 Lib.objectInit, .instanceMethod Lib.objectInit, .code Lib.objectInit ⟨#[0xb1]⟩ 1 none, .methodLink ST 177 Cmp3.yN, .static Cmp3.yN, .methodLink ST 47 CodL.yN, .static CodL.yN,
  .code Cmp3.yN Cmp3.yB 6 (some (.array .byte)), .initialized U16, .arrayClass .byte, .methodLink U16 115 Cmp5.yN, .static Cmp5.yN, .code Cmp5.yN Cmp5.yB 7 (some .int), .code CodL.yN CodL.yB 2 (some .byte)]
theorem tab_of {a : Array Value} {s : State} (h : ∀ w ∈ words, w.before a s = true) : New1.tab.before a s = true := by
  have h5 : Cmp5.tab.before a s = true := unparts (wk h (.code Cmp5.yN Cmp5.yB 7 (some .int))) (wks h (.initialized Cmp5.yN.cls :: Cmp5.site))
  have hc : CodL.tab.before a s = true := unparts (wk h (.code CodL.yN CodL.yB 2 (some .byte))) (wks h (.initialized CodL.yN.cls :: CodL.site))
  have q5 : ∀ w ∈ Cmp5.tab :: words, w.before a s = true := fun w hw => (List.mem_cons.mp hw).elim (fun e => e ▸ h5) (h w)
  have h3 : Cmp3.tab.before a s = true := unparts (wk q5 (.code Cmp3.yN Cmp3.yB 6 (some (.array .byte)))) (wks q5 (.initialized Cmp3.yN.cls :: Cmp3.site))
  have q3 : ∀ w ∈ Cmp3.tab :: CodL.tab :: words, w.before a s = true := fun w hw => (List.mem_cons.mp hw).elim (fun e => e ▸ h3) fun hw => (List.mem_cons.mp hw).elim (fun e => e ▸ hc) (h w)
  have h4 : New4.tab.before a s = true := unparts (wk q3 (.code New4.yN New4.yB 6 none)) (wks q3 (.initialized New4.yN.cls :: New4.site))
  have q4 : ∀ w ∈ New4.tab :: words, w.before a s = true := fun w hw => (List.mem_cons.mp hw).elim (fun e => e ▸ h4) (h w)
  exact unparts (wk q4 (.code New1.yN New1.yB 2 none)) (wks q4 (.initialized New1.yN.cls :: New1.site))
/-- the words ride from the start Z to the walk's own state -/
theorem moved {Z s : State} {a0 args : Array Value} (hZ : Z.Warmed39 s.vm) (hw : ∀ d ∈ words, d.before a0 Z = true) : ∀ d ∈ words, d.before args s = true := fun d hd => by
  have q := hw d hd
  have t : ∀ d ∈ words, d = .arrayClass .byte ∨ (d.onTables && d.keepsFace) = true := by decide +kernel
  rcases t d hd with rfl | t
  · exact RoadKit.mvA hZ q
  · exact RoadKit.mv hZ q t
/-- WHAT COMES BACK, over the tables of the start Z: h the heap at the call, h' behind it -/
def Q (Z : State) (x : Addr) (A : Cell) (h : Heap) (v : Option Value) (h' : Heap) (L : List Loc) : Prop := v = none ∧ (∀ y ∈ L, y.base = x) ∧ RoadKit.Keep h h' [x] ∧ h'.size = h.size + 1 ∧ RoadKit.Exa Z h' x ST ∧ RoadKit.Fld Z h' x ST "value" "[B" (.ref h.size) ∧ RoadKit.Fld Z h' x ST "coder" "B" (.int 0) ∧
  (∃ V : Cell, RoadKit.Arr Z h' h.size V .byte ∧ V.vm = .none ∧ Z.vm.findClass "[B" = some V.cls ∧ V.slots.size = A.slots.size ∧ ∀ j, j < A.slots.size → V.slots[j]? = some (.int (lo8 (cv A j)))) ∧
  ∀ (O n d : String) (w : Value), RoadKit.Fld Z h x O n d w → RoadKit.slotOf Z O n d ≠ RoadKit.slotOf Z ST "value" "[B" → RoadKit.slotOf Z O n d ≠ RoadKit.slotOf Z ST "coder" "B" → RoadKit.Fld Z h' x O n d w
/-- **new String(chars) AT A CALL, IN THE ROAD'S FORM**: for specialBack behind newO: x the fresh String, b the char[] with the cell A -/
theorem back {p : Program} {l : Launch} {e : Env} {R : Room} {s : State} {args : Array Value} {below : List Frame} {len W : Nat} {Z : State} {a0 : Array Value} {h : Heap} (hZ : Z.Warmed39 s.vm) (hw : ∀ d ∈ words, d.before a0 Z = true) {kI : Nat} (wi : (Jvm.Cond.instantiable ST kI).before a0 Z = true)
    {x b : Addr} {A : Cell} {z : Int32} {v0 c0 : Value} (E : RoadKit.Exa Z h x ST) (V : RoadKit.Fld Z h x ST "value" "[B" v0) (C : RoadKit.Fld Z h x ST "coder" "B" c0) (K : RoadKit.Arr Z h b A .char) (hty : Typed .char A) (S : RoadKit.Sta Z h ST "COMPACT_STRINGS" "Z" (.int z)) (hz : ¬ z = 0)
    (l0 : 0 < A.slots.size) (l2 : A.slots.size ≤ 536870912) (hp : ∀ i, i < A.slots.size → ¬ 255 < cv A i) (hfr : 4 ≤ R.frames) (hlo : W + 65 ≤ R.locals) :
    Back l R p e below s args New1.yN len W (fun P a => a = #[.ref x, .ref b] ∧ P.U.heap = h ∧ P.cells + 1 ≤ R.cells ∧ P.slots + A.slots.size ≤ R.slots)
      (fun P _ v B => ∃ L, Q Z x A h v B.U.heap L ∧ B.locs = P.locs ++ L ∧ B.cells = P.cells + 1 ∧ B.slots = P.slots + A.slots.size) := by
  intro m meth c P g ig mk a X hg hsize hdg hW hn hp'
  obtain ⟨rfl, rfl, r1, r2⟩ := hp'
  have al : Z.vm.Alike P.U.vm := hZ.alike.trans X.warmed.alike
  obtain ⟨D, cfV, kV, iV, fV, hD, gV, stV, knV, obV, asV, slV⟩ := id V
  obtain ⟨D', cfC, kC, iC, fC, hD', gC, stC, -, -, asC, slC⟩ := id C
  cases hD.symm.trans hD'
  obtain ⟨D2, kD, e1, e2, e3, e4, e5⟩ := id E
  cases hD.symm.trans e1
  obtain ⟨c2, k2, i1, i2, i3, -⟩ := Cond.instantiable_spec wi
  cases e2.symm.trans i1
  cases e3.symm.trans i2
  obtain ⟨kU, u1, u2⟩ := al.2.2 _ _ e3
  have hB : Blank ST x D P.U := ⟨hD, ⟨knV, fun q hq => by rw [hq] at obV; cases obV⟩, by rw [al.findClass]; exact e2, kU, u1, by rw [u2]; exact i3, by rw [u2]; exact e5 i3⟩
  have F1 : Found ST "value" "[B" fV P.U := ⟨SBG.found_only al ⟨cfV, kV, iV, gV⟩, stV⟩
  have F2 : Found ST "coder" "B" fC P.U := ⟨SBG.found_only al ⟨cfC, kC, iC, gC⟩, stC⟩
  have hA : Ch b A P.U := ⟨⟨K.1, State.isArrayOf_alike al K.2.1, K.2.2, by omega⟩, hty⟩
  have hS : StaticIs P.U ST "COMPACT_STRINGS" "Z" (.int z) := by
    obtain ⟨cfS, iS, kS, fS, st, cS, t1, t2, t3, t4, t5, t6, t7⟩ := S
    exact StaticIs.there (s := { Z with heap := P.U.heap }) ⟨cfS, iS, kS, fS, st, cS, t1, t2, t3, t4, t5, (fun q => by rw [q] at t6; cases t6), t7⟩ al rfl
  obtain ⟨v, B, X', ⟨⟨hv, E', V', q1, q2, q3, q4, q5, q6, q7, q8, q9, q10, q11⟩, hl, hc, hs⟩, st⟩ := New1.pays x D fV fC b A z (tab_of (moved hZ hw)) hfr hlo m meth c P g ig mk _ X hg hsize hdg hW hn ⟨r1, r2, rfl, hB, F1, F2, hA, hS, hz, l0, l2, hp⟩
  have al' : Z.vm.Alike B.U.vm := hZ.alike.trans X'.warmed.alike
  have hsz : E'.slots.size = D.slots.size := by
    obtain ⟨-, -, -, kB, w1, w2, w3⟩ := q1
    obtain ⟨kB', y1, y2⟩ := al'.2.2 _ _ e3
    rw [q2.2.1] at w1
    cases w1.symm.trans y1
    rw [w3, e5 i3, y2]
  refine ⟨v, B, X', ⟨_, ⟨hv, ?_, ⟨by omega, fun y cy hy hn' => q10 y cy (by simpa using hn') hy, fun y cy hy => ?_⟩, q11, ⟨E', _, q1.1, by rw [q2.2.1]; exact e2, by rw [q2.2.1]; exact e3, by rw [q2.1]; exact obV, fun _ => by rw [hsz]; exact e5 i3⟩,
    ⟨E', cfV, kV, iV, fV, q1.1, gV, stV, by rw [q2.1]; exact knV, by rw [q2.1]; exact obV, by rw [q2.2.1]; exact asV, q3⟩, ⟨E', cfC, kC, iC, fC, q1.1, gC, stC, by rw [q2.1]; exact knV, by rw [q2.1]; exact obV, by rw [q2.2.1]; exact asC, q4⟩,
    ⟨V', ⟨q5.1, State.isArrayOf_alike al'.symm q5.2.1, q5.2.2.1⟩, q6, by rw [← al'.findClass]; exact q7, q8, fun j hj => by have := q9 j hj; rwa [Nat.zero_add] at this⟩, fun O n d w F n1 n2 => ?_⟩, hl, hc, hs⟩, st⟩
  · intro y hy
    simp only [List.mem_cons, List.not_mem_nil, or_false] at hy
    rcases hy with rfl | rfl <;> rfl
  · by_cases q : y = x
    · subst q
      cases hD.symm.trans hy
      exact ⟨E', q1.1, q2.2.1, q2.1, hsz⟩
    · exact ⟨cy, q10 y cy q hy, rfl, rfl, rfl⟩
  · obtain ⟨D3, cf, k, i, f, g1, g2, g3, g4, g5, g6, g7⟩ := F
    cases hD.symm.trans g1
    simp only [RoadKit.slotOf, g2, gV, gC, Option.map_some, Option.getD_some] at n1 n2
    exact ⟨E', cf, k, i, f, q1.1, g2, g3, by rw [q2.1]; exact g4, by rw [q2.1]; exact g5, by rw [q2.2.1]; exact g6, by rw [q2.2.2 f.slot (by simp [n1, n2])]; exact g7⟩
end StrChars.Road
namespace StrChars.Road
open Jvm Sem ClassFile Op Lib Jvm.Stand Jvm.Free Jvm.Free.XT
/-- WHAT COMES BACK, the byte[] as a list of values -/
def QA (Z : State) (x : Addr) (zn : Int32) (cs : List Int32) (h : Heap) (v : Option Value) (h' : Heap) (L : List Loc) : Prop := v = none ∧ (∀ y ∈ L, y.base = x) ∧ RoadKit.Keep h h' [x] ∧ h'.size = h.size + 1 ∧ RoadKit.Exa Z h' x ST ∧ RoadKit.Fld Z h' x ST "value" "[B" (.ref h.size) ∧ RoadKit.Fld Z h' x ST "coder" "B" (.int 0) ∧
  (∃ kb, Z.vm.findClass "[B" = some kb ∧ RoadKit.Arv Z h' h.size kb .byte zn (cs.map fun c => .int (lo8 c)) (.int 0)) ∧
  ∀ (O n d : String) (w : Value), RoadKit.Fld Z h x O n d w → RoadKit.slotOf Z O n d ≠ RoadKit.slotOf Z ST "value" "[B" → RoadKit.slotOf Z O n d ≠ RoadKit.slotOf Z ST "coder" "B" → RoadKit.Fld Z h' x O n d w
/-- **new String(chars) AT A CALL, THE ARRAYS AS LISTS**: the char[] at b holds cs, not empty, no char above 255 -/
theorem backArv {p : Program} {l : Launch} {e : Env} {R : Room} {s : State} {args : Array Value} {below : List Frame} {len W : Nat} {Z : State} {a0 : Array Value} {h : Heap} (hZ : Z.Warmed39 s.vm) (hw : ∀ d ∈ words, d.before a0 Z = true) {kI : Nat} (wi : (Jvm.Cond.instantiable ST kI).before a0 Z = true)
    {x b : Addr} {k : ClassId} {zn z : Int32} {cs : List Int32} {dv v0 c0 : Value} (E : RoadKit.Exa Z h x ST) (V : RoadKit.Fld Z h x ST "value" "[B" v0) (C : RoadKit.Fld Z h x ST "coder" "B" c0) (K : RoadKit.Arv Z h b k .char zn (cs.map Value.int) dv) (S : RoadKit.Sta Z h ST "COMPACT_STRINGS" "Z" (.int z)) (hz : ¬ z = 0)
    (hlen : zn.toNatClampNeg = cs.length) (h0 : 0 < cs.length) (hbig : cs.length ≤ 536870912) (hall : ∀ c ∈ cs, ¬ 255 < c) (hfr : 4 ≤ R.frames) (hlo : W + 65 ≤ R.locals) :
    Back l R p e below s args New1.yN len W (fun P a => a = #[.ref x, .ref b] ∧ P.U.heap = h ∧ P.cells + 1 ≤ R.cells ∧ P.slots + cs.length ≤ R.slots)
      (fun P _ v B => ∃ L, QA Z x zn cs h v B.U.heap L ∧ B.locs = P.locs ++ L ∧ B.cells = P.cells + 1 ∧ B.slots = P.slots + cs.length) := by
  obtain ⟨A, K1, K2, K3, K4, K5, K6⟩ := K
  have e : A.slots.size = cs.length := K3.trans hlen
  have hat : ∀ (i : Nat) (hi : i < cs.length), A.slots[i]? = some (.int cs[i]) := fun i hi => by rw [K5 i (by omega)]; simp [List.getD_eq_getElem?_getD, hi]
  have hcv : ∀ (i : Nat) (hi : i < cs.length), cv A i = cs[i] := fun i hi => by unfold cv; rw [hat i hi]
  have hty : Typed .char A := fun i v hv => by
    have hi : i < A.slots.size := (Array.getElem?_eq_some_iff.mp hv).1
    have q := K5 i hi
    rw [hv] at q
    rw [Option.some.inj q]
    exact K6 i hi
  refine Back.mono (back hZ hw wi E V C K1 hty S hz (by omega) (by omega) (fun i hi => by rw [hcv i (by omega)]; exact hall _ (List.getElem_mem _)) hfr hlo) (fun P a hp => ⟨hp.1, hp.2.1, hp.2.2.1, by rw [e]; exact hp.2.2.2⟩) (fun P a v B hp hq => ?_)
  obtain ⟨L, ⟨q1, q2, q3, q4, q5, q6, q7, ⟨V', v1, v2, v3, v4, v5⟩, q9⟩, hl, hc, hs⟩ := hq
  refine ⟨L, ⟨q1, q2, q3, q4, q5, q6, q7, ⟨V'.cls, v3, V', v1, rfl, by rw [v4, e, hlen], K4, fun i hi => ?_, fun i hi => ?_⟩, q9⟩, hl, hc, by rw [hs, e]⟩
  · have hi' : i < cs.length := by omega
    rw [v5 i (by omega), hcv i hi']; simp [List.getD_eq_getElem?_getD, hi']
  · have hi' : i < cs.length := by omega
    simp only [List.getD_eq_getElem?_getD, List.getElem?_map, List.getElem?_eq_getElem hi', Option.map_some, Option.getD_some]
    exact fits_lo8 _
end StrChars.Road
namespace StrChars.Road
open Jvm Sem ClassFile Op Lib Jvm.Stand Jvm.Free Jvm.Free.XT
/-- WHAT COMES BACK, in the writer's own shape -/
def QV (Z : State) (x : Addr) (N : Int32) (bs : List Int32) (h : Heap) (n0 : Nat) (v : Option Value) (h' : Heap) (L : List Loc) : Prop := v = none ∧ RoadKit.Fr n0 L ∧ RoadKit.Keep h h' [x] ∧ RoadKit.Exa Z h' x ST ∧ RoadKit.Fld Z h' x ST "coder" "B" (.int 0) ∧
  ∃ (t : Addr) (kb : ClassId), n0 ≤ t ∧ h.size ≤ t ∧ ¬ t = x ∧ RoadKit.Fld Z h' x ST "value" "[B" (.ref t) ∧ RoadKit.Arv Z h' t kb .byte N (bs.map Value.int) (.int 0)
/-- **new String(chars) AT A CALL, FOR THE WRITER**: a char[] of n known ints, each 0 to 255 -/
theorem backV {p : Program} {l : Launch} {e : Env} {R : Room} {s : State} {args : Array Value} {below : List Frame} {len W : Nat} {Z : State} {a0 : Array Value} {h : Heap} (hZ : Z.Warmed39 s.vm) (hw : ∀ d ∈ words, d.before a0 Z = true) {kI : Nat} (wi : (Jvm.Cond.instantiable ST kI).before a0 Z = true)
    {x b : Addr} {kC : ClassId} {cs bs : List Int32} {d v0 c0 : Value} {z N : Int32} {n n0 : Nat} (hx0 : n0 ≤ x) (hh0 : n0 ≤ h.size) (E : RoadKit.Exa Z h x ST) (V : RoadKit.Fld Z h x ST "value" "[B" v0) (C : RoadKit.Fld Z h x ST "coder" "B" c0) (K : RoadKit.Arv Z h b kC .char N (cs.map Value.int) d) (S : RoadKit.Sta Z h ST "COMPACT_STRINGS" "Z" (.int z)) (hz : ¬ z = 0)
    (hn : cs.length = n) (hN : N = Int32.ofNat n) (l0 : 0 < n) (l2 : n ≤ 4000) (hp : ∀ c ∈ cs, ¬ c < 0 ∧ ¬ (255 : Int32) < c) (hb : bs = cs.map (fun c => c.toInt8.toInt32)) (hfr : 4 ≤ R.frames) (hlo : W + 65 ≤ R.locals) :
    Back l R p e below s args (⟨"java/lang/String", "<init>", "([C)V"⟩ : MethodName) len W (fun P a => a = #[.ref x, .ref b] ∧ P.U.heap = h ∧ P.cells + 1 ≤ R.cells ∧ P.slots + n ≤ R.slots)
      (fun P _ v B => ∃ L, QV Z x N bs h n0 v B.U.heap L ∧ B.locs = P.locs ++ L ∧ B.cells = P.cells + 1 ∧ B.slots = P.slots + n) := by
  subst hn hN hb
  refine Back.mono (backArv hZ hw wi E V C K S hz (n32 (by omega)) l0 (by omega) (fun c hc => (hp c hc).2) hfr hlo) (fun P a hp => hp) (fun P a v B hp hq => ?_)
  obtain ⟨L, ⟨q1, q2, q3, q4, q5, q6, q7, ⟨kb, v1, v2⟩, q9⟩, hl, hc, hs⟩ := hq
  exact ⟨L, ⟨q1, fun y hy => by rw [q2 y hy]; exact hx0, q3, q5, q7, h.size, kb, hh0, Nat.le_refl _, Nat.ne_of_gt E.lt, q6, by rw [List.map_map]; exact v2⟩, hl, hc, hs⟩
end StrChars.Road
end Jvm.Pilot.@@N@@
namespace Jvm.Pilot.@@N@@
open Jvm Jvm.ClassFile Sem Op Lib Jvm.Free Jvm.Stand Jvm.LawKit Jvm.RoadKit Bundle Jvm.Pilot.@@N@@.Jvm.D
/-! own layer: the walk in continuation form -/
section OwnWalk
variable {p : Program} {l : Launch} {e : Env} {R : Room} {s : State} {m : MethodId} {args : Array Value} {below : List Frame} {meth : Method} {c : Code} {T T' : State} {locs : List Loc} {cells slots : Nat} {Q : Option Value → Heap → List Loc → Prop} {ck sk : Nat} {f f' : JFrame} {Z : State} {a0 : Array Value} {h h' : Heap}
/-- from this state and frame the invocation returns, and what it leaves is told by Q -/
def ownEnds (p : Program) (e : Env) (below : List Frame) (s : State) (Q : Option Value → Heap → List Loc → Prop) (ck sk : Nat) (T : State) (f : JFrame) : Prop :=
  ∃ s₂ o, Steps p.tables e below (T.setTop f) s₂ ∧ s₂.status = .running ∧ Ended s₂ below o ∧ ∃ v L, o = .returned v ∧ Q v s₂.heap L ∧ FrameEnd s o s₂ L ck sk
theorem ownGo (st : ∀ target, Steps p.tables e below (T'.setTop f') target → Steps p.tables e below (T.setTop f) target) (k : ownEnds p e below s Q ck sk T' f') : ownEnds p e below s Q ck sk T f := by
  obtain ⟨a, b, h1, h2⟩ := k
  exact ⟨a, b, st _ h1, h2⟩
theorem ownRun (st : Steps p.tables e below (T.setTop f) (T'.setTop f')) (k : ownEnds p e below s Q ck sk T' f') : ownEnds p e below s Q ck sk T f :=
  ownGo (fun _ q => st.trans q) k
theorem ownCast (q : f = f') (k : ownEnds p e below s Q ck sk T f') : ownEnds p e below s Q ck sk T f := q ▸ k
theorem ownRetN (X : Stand p l e R s m args below meth c T locs cells slots) (hx : p.tables.exec = Jvm.exec) {pc : Nat} {Ls : Array Slot} {z r : Int32} {rest : List Value} {t : FieldType} (ht : t = .boolean ∨ t = .byte ∨ t = .char ∨ t = .short) (hret : meth.sig.returnType = some t) (hd : decode c.code pc = .ok (.ireturn, 1)) (hk : meth.locks = false) (hc : cells ≤ ck) (hs : slots ≤ sk)
    (hz : nar t z = r) (hQ : Q (some (.int r)) T.heap locs) : ownEnds p e below s Q ck sk T (mkF m pc Ls (.int z :: rest)) := by
  subst hz
  obtain ⟨fs, hr, hrun, hended, hW, hsame⟩ := X.leave (v := some (.int (nar t z))) (fun h => by rw [hret] at h; cases h) hk
  exact ⟨_, _, retN X hx hret ht hd hr, hrun, hended, _, _, rfl, hQ, ⟨_, rfl⟩, hW, hsame.mono hc hs⟩
theorem ownRetR (X : Stand p l e R s m args below meth c T locs cells slots) (hx : p.tables.exec = Jvm.exec) {pc : Nat} {Ls : Array Slot} {w : Value} {rest : List Value} {t : FieldType} (ht : t.isReference = true) (hn : narrow t w = w) (hw : w.isRef = true) (hret : meth.sig.returnType = some t) (hd : decode c.code pc = .ok (.areturn, 1)) (hk : meth.locks = false) (hc : cells ≤ ck) (hs : slots ≤ sk)
    (hQ : Q (some w) T.heap locs) : ownEnds p e below s Q ck sk T (mkF m pc Ls (w :: rest)) := by
  obtain ⟨fs, hr, hrun, hended, hW, hsame⟩ := X.leave (v := some w) (fun h => by rw [hret] at h; cases h) hk
  exact ⟨_, _, retOut X hx hret hn (Or.inr (Or.inr (Or.inr (Or.inr ⟨rfl, ht, hw⟩)))) hd hr, hrun, hended, _, _, rfl, hQ, ⟨_, rfl⟩, hW, hsame.mono hc hs⟩
theorem ownRetV (X : Stand p l e R s m args below meth c T locs cells slots) (hx : p.tables.exec = Jvm.exec) {pc : Nat} {Ls : Array Slot} (hret : meth.sig.returnType = none) (hd : decode c.code pc = .ok (.return_, 1)) (hk : meth.locks = false) (hc : cells ≤ ck) (hs : slots ≤ sk)
    (hQ : Q none T.heap locs) : ownEnds p e below s Q ck sk T (mkF m pc Ls []) := by
  obtain ⟨fs, hr, hrun, hended, hW, hsame⟩ := X.leave (v := none) (fun _ => rfl) hk
  exact ⟨_, _, X.returnOut hx hret hd hr, hrun, hended, _, _, rfl, hQ, ⟨_, rfl⟩, hW, hsame.mono hc hs⟩
/-- one place of a function turned -/
def ownUpd {α : Type} (f : Nat → α) (j : Nat) (x : α) : Nat → α := fun i => if i = j then x else f i
theorem ownUpd_same {α : Type} (f : Nat → α) (j : Nat) (x : α) : ownUpd f j x j = x := if_pos rfl
theorem ownUpd_ne {α : Type} (f : Nat → α) {i j : Nat} (x : α) (q : i ≠ j) : ownUpd f j x i = f i := if_neg q
/-- an array of ints (or bytes, chars ..): its length and its components -/
def ownAI (Z : State) (h : Heap) (a : Addr) (ty : FieldType) (n : Nat) (g : Nat → Int32) : Prop := ∃ cl : Cell, Arr Z h a cl ty ∧ cl.slots.size = n ∧ n < 2 ^ 31 ∧ ∀ i, i < n → cl.slots[i]? = some (.int (g i))
/-- an array of longs -/
def ownAJ (Z : State) (h : Heap) (a : Addr) (n : Nat) (g : Nat → Int64) : Prop := ∃ cl : Cell, Arr Z h a cl .long ∧ cl.slots.size = n ∧ n < 2 ^ 31 ∧ ∀ i, i < n → cl.slots[i]? = some (.long (g i))
variable {a b : Addr} {ty : FieldType} {n : Nat} {gi : Nat → Int32} {gj : Nat → Int64} {ws : List Addr} {sl : Nat} {v : Value}
theorem ownAI.lt (F : ownAI Z h a ty n gi) : a < h.size := by obtain ⟨c, A, -⟩ := F; exact A.lt
theorem ownAI.ext (F : ownAI Z h a ty n gi) (E : Ext h h') : ownAI Z h' a ty n gi := by obtain ⟨c, A, r⟩ := F; exact ⟨c, A.ext E, r⟩
theorem ownAI.other (F : ownAI Z h b ty n gi) (W : Wr h h' a sl v) (q : b ≠ a) : ownAI Z h' b ty n gi := by obtain ⟨c, A, r⟩ := F; exact ⟨c, A.other W q, r⟩
theorem ownAI.keep (F : ownAI Z h a ty n gi) (K : Keep h h' ws) (q : a ∉ ws) : ownAI Z h' a ty n gi := by obtain ⟨c, A, r⟩ := F; exact ⟨c, ⟨K.2.1 a c A.1 q, A.2⟩, r⟩
theorem ownAJ.lt (F : ownAJ Z h a n gj) : a < h.size := by obtain ⟨c, A, -⟩ := F; exact A.lt
theorem ownAJ.ext (F : ownAJ Z h a n gj) (E : Ext h h') : ownAJ Z h' a n gj := by obtain ⟨c, A, r⟩ := F; exact ⟨c, A.ext E, r⟩
theorem ownAJ.other (F : ownAJ Z h b n gj) (W : Wr h h' a sl v) (q : b ≠ a) : ownAJ Z h' b n gj := by obtain ⟨c, A, r⟩ := F; exact ⟨c, A.other W q, r⟩
theorem ownAJ.keep (F : ownAJ Z h a n gj) (K : Keep h h' ws) (q : a ∉ ws) : ownAJ Z h' a n gj := by obtain ⟨c, A, r⟩ := F; exact ⟨c, ⟨K.2.1 a c A.1 q, A.2⟩, r⟩
theorem ownAI.new {k : ClassId} {z : Int32} (A : Arr Z h a (newA k ty z) ty) (q : ¬ z < 0) (d : defaultValue ty = .int 0) (N : z.toNatClampNeg = n) : ownAI Z h a ty n (fun _ => 0) := by
  subst N
  refine ⟨_, A, sz_new _ _ _, (back32 q).2, fun i hi => ?_⟩
  simp [newA, hi, d]
theorem ownAJ.new {k : ClassId} {z : Int32} (A : Arr Z h a (newA k .long z) .long) (q : ¬ z < 0) (N : z.toNatClampNeg = n) : ownAJ Z h a n (fun _ => 0) := by
  subst N
  refine ⟨_, A, sz_new _ _ _, (back32 q).2, fun i hi => ?_⟩
  simp [newA, hi, defaultValue]
theorem ownAI.set (F : ownAI Z h a ty n gi) {j : Nat} {x : Int32} (W : Wr h h' a j (.int x)) : ownAI Z h' a ty n (ownUpd gi j x) := by
  obtain ⟨cl, A, S, N, H⟩ := F
  refine ⟨_, A.same W, by simpa [Cell.setSlot] using S, N, fun i hi => ?_⟩
  by_cases e : i = j
  · subst e; simp [Cell.setSlot, ownUpd, S, hi]
  · rw [ownUpd_ne _ _ e]
    show (cl.slots.setIfInBounds j (.int x))[i]? = _
    rw [Array.getElem?_setIfInBounds_ne (Ne.symm e)]; exact H i hi
theorem ownAJ.set (F : ownAJ Z h a n gj) {j : Nat} {x : Int64} (W : Wr h h' a j (.long x)) : ownAJ Z h' a n (ownUpd gj j x) := by
  obtain ⟨cl, A, S, N, H⟩ := F
  refine ⟨_, A.same W, by simpa [Cell.setSlot] using S, N, fun i hi => ?_⟩
  by_cases e : i = j
  · subst e; simp [Cell.setSlot, ownUpd, S, hi]
  · rw [ownUpd_ne _ _ e]
    show (cl.slots.setIfInBounds j (.long x))[i]? = _
    rw [Array.getElem?_setIfInBounds_ne (Ne.symm e)]; exact H i hi
/-- an index is inside -/
def ownIn (j : Int32) (n : Nat) : Prop := ¬ (j < 0 ∨ n ≤ j.toNatClampNeg)
theorem ownIn_of {j : Int32} {n : Nat} (h1 : 0 ≤ j.toInt) (h2 : j.toInt < n) : ownIn j n := by
  intro q
  rcases q with q | q
  · rw [Int32.lt_iff_toInt_lt] at q; simp only [Int32.reduceToInt] at q; omega
  · simp only [Int32.toNatClampNeg] at q; omega
theorem ownLenI (F : ownAI Z h a ty n gi) (X : Stand p l e R s m args below meth c T locs cells slots) (hx : p.tables.exec = Jvm.exec) (hZ : Z.Warmed39 s.vm) (eT : T.heap = h) {z : Int32} (hz : n.toInt32 = z) {g : JFrame} (hg : g.method = m) {rest : List Value} (hs : g.stack = .ref a :: rest) (hd : decode c.code g.pc = .ok (.arraylength, 1)) :
    ∀ target, Steps p.tables e below (T.setTop { g with pc := g.pc + 1, stack := .int z :: rest }) target → Steps p.tables e below (T.setTop g) target := by
  obtain ⟨cl, A, S, N, H⟩ := F
  subst S hz
  exact fun t k => X.arraylength hx (by rw [eT]; exact A.1) (State.isArrayOf_alike hZ.alike A.2.1) hg hs hd t k
theorem ownBastore (F : ownAI Z h a .byte n gi) (X : Stand p l e R s m args below meth c T locs cells slots) (hx : p.tables.exec = Jvm.exec) (hZ : Z.Warmed39 s.vm) (eT : T.heap = h) {j x : Int32} (hin : ownIn j n) {g : JFrame} (hg : g.method = m) {rest : List Value} (hs : g.stack = .int x :: .int j :: .ref a :: rest) (hd : decode c.code g.pc = .ok (.bastore, 1)) :
    ∃ T' h', Stand p l e R s m args below meth c T' (locs ++ [⟨a, j.toNatClampNeg⟩]) cells slots ∧ T'.heap = h' ∧ Wr h h' a j.toNatClampNeg (.int (nar .byte x)) ∧ ownAI Z h' a .byte n (ownUpd gi j.toNatClampNeg (nar .byte x)) ∧ ∀ target, Steps p.tables e below (T'.setTop { g with pc := g.pc + 1, stack := rest }) target → Steps p.tables e below (T.setTop g) target := by
  obtain ⟨cl, A, S, r⟩ := id F
  obtain ⟨T', h', X', e', W, st⟩ := stB X hx hZ eT A (j := j) (by rw [S]; exact hin) hg hs hd
  exact ⟨T', h', X', e', W, F.set W, st⟩
theorem ownCastore (F : ownAI Z h a .char n gi) (X : Stand p l e R s m args below meth c T locs cells slots) (hx : p.tables.exec = Jvm.exec) (hZ : Z.Warmed39 s.vm) (eT : T.heap = h) {j x : Int32} (hin : ownIn j n) {g : JFrame} (hg : g.method = m) {rest : List Value} (hs : g.stack = .int x :: .int j :: .ref a :: rest) (hd : decode c.code g.pc = .ok (.castore, 1)) :
    ∃ T' h', Stand p l e R s m args below meth c T' (locs ++ [⟨a, j.toNatClampNeg⟩]) cells slots ∧ T'.heap = h' ∧ Wr h h' a j.toNatClampNeg (.int (nar .char x)) ∧ ownAI Z h' a .char n (ownUpd gi j.toNatClampNeg (nar .char x)) ∧ ∀ target, Steps p.tables e below (T'.setTop { g with pc := g.pc + 1, stack := rest }) target → Steps p.tables e below (T.setTop g) target := by
  obtain ⟨cl, A, S, r⟩ := id F
  obtain ⟨T', h', X', e', W, st⟩ := stC X hx hZ eT A (j := j) (by rw [S]; exact hin) hg hs hd
  exact ⟨T', h', X', e', W, F.set W, st⟩
theorem ownNstE {C : String} (F : Exa Z h a C) : ∀ c, h[a]? = some c → c.vm.isStatics = false := fun c q => by obtain ⟨cell, k, h1, -, -, h4, -⟩ := F; cases h1.symm.trans q; exact h4
theorem ownStaKeep {C nm d : String} (F : Sta Z h C nm d v) (K : Keep h h' ws) (q : ∀ x ∈ ws, ∀ c, h[x]? = some c → c.vm.isStatics = false) : Sta Z h' C nm d v := by
  obtain ⟨cf, i, k, f, st, cell, h1, h2, h3, h4, h5, h6, h7⟩ := F
  refine ⟨cf, i, k, f, st, cell, h1, h2, h3, h4, K.2.1 st cell h5 (fun w => ?_), h6, h7⟩
  rw [q st w cell h5] at h6; cases h6
/-- an array of int arrays: its class, its length, its components -/
def ownAR (Z : State) (h : Heap) (a : Addr) (k : ClassId) (n : Nat) (f : Nat → Value) : Prop := ∃ cl : Cell, Arr Z h a cl (.array .int) ∧ cl.cls = k ∧ cl.slots.size = n ∧ n < 2 ^ 31 ∧ ∀ i, i < n → cl.slots[i]? = some (f i)
theorem ownAR.lt {k : ClassId} {fr : Nat → Value} (F : ownAR Z h a k n fr) : a < h.size := by obtain ⟨c, A, -⟩ := F; exact A.lt
theorem ownAR.ext {k : ClassId} {fr : Nat → Value} (F : ownAR Z h a k n fr) (E : Ext h h') : ownAR Z h' a k n fr := by obtain ⟨c, A, r⟩ := F; exact ⟨c, A.ext E, r⟩
theorem ownAR.other {k : ClassId} {fr : Nat → Value} (F : ownAR Z h b k n fr) (W : Wr h h' a sl v) (q : b ≠ a) : ownAR Z h' b k n fr := by obtain ⟨c, A, r⟩ := F; exact ⟨c, A.other W q, r⟩
theorem ownAR.keep {k : ClassId} {fr : Nat → Value} (F : ownAR Z h a k n fr) (K : Keep h h' ws) (q : a ∉ ws) : ownAR Z h' a k n fr := by obtain ⟨c, A, r⟩ := F; exact ⟨c, ⟨K.2.1 a c A.1 q, A.2⟩, r⟩
theorem ownAR.new {k : ClassId} {z : Int32} (A : Arr Z h a (newA k (.array .int) z) (.array .int)) (q : ¬ z < 0) (N : z.toNatClampNeg = n) : ownAR Z h a k n (fun _ => .null) := by
  subst N
  refine ⟨_, A, rfl, sz_new _ _ _, (back32 q).2, fun i hi => ?_⟩
  simp [newA, hi, defaultValue]
theorem ownAR.set {k : ClassId} {fr : Nat → Value} (F : ownAR Z h a k n fr) {j : Nat} {x : Value} (W : Wr h h' a j x) : ownAR Z h' a k n (ownUpd fr j x) := by
  obtain ⟨cl, A, q, S, N, H⟩ := F
  refine ⟨_, A.same W, q, by simpa [Cell.setSlot] using S, N, fun i hi => ?_⟩
  by_cases e : i = j
  · subst e; simp [Cell.setSlot, ownUpd, S, hi]
  · rw [ownUpd_ne _ _ e]
    show (cl.slots.setIfInBounds j x)[i]? = _
    rw [Array.getElem?_setIfInBounds_ne (Ne.symm e)]; exact H i hi
theorem own_narb {x v : Int32} (h : x.toInt8.toInt32 = v) : nar .byte v = v := by subst h; simp [nar]
theorem own_narc {x v : Int32} (h : x.toUInt32.toUInt16.toUInt32.toInt32 = v) : nar .char v = v := by subst h; simp only [nar, UInt32.toUInt32_toInt32, UInt16.toUInt16_toUInt32]
theorem own_evNull {args : Array Value} {t : Term} (h : (Cond.eq t .null).value args s none s [] = some true) : t.eval args s none [] s = some .null := by
  simp only [Cond.value, Term.eval] at h
  cases ht : t.eval args s none [] s with
  | none => simp [ht] at h
  | some x => cases x <;> simp [ht] at h ⊢
theorem own_fldNull {args : Array Value} {t : Term} {C n d : String} {x : Addr} (h : (Cond.eq (.field t C n d) .null).value args s none s [] = some true) (ht : t.eval args s none [] s = some (.ref x)) : Fld s s.heap x C n d .null :=
  Fld.start ((fld_at ht).symm.trans (own_evNull h))
end OwnWalk
section OwnSteps
variable {p : Program} {l : Launch} {e : Env} {R : Room} {s : State} {m : MethodId} {args : Array Value} {below : List Frame} {meth : Method} {c : Code} {T : State} {locs : List Loc} {cells slots : Nat} {Q : Option Value → Heap → List Loc → Prop} {ck sk : Nat}
theorem ow_iloadN (X : Stand p l e R s m args below meth c T locs cells slots) (hx : p.tables.exec = Jvm.exec) {pc q : Nat} {Ls : Array Slot} {S : List Value} {k : Fin 4} {v : Int32} (hd : decode c.code pc = .ok (.iload_n k, 1)) (hq : pc + 1 = q) (hl : Ls[k.val]? = some (.val (.int v))) (k : ownEnds p e below s Q ck sk T (mkF m q Ls (.int v :: S))) : ownEnds p e below s Q ck sk T (mkF m pc Ls S) := by
  subst hq
  exact ownGo (fun _ k => XS.iloadN X.here hx rfl hd hl k) k
theorem ow_aloadN (X : Stand p l e R s m args below meth c T locs cells slots) (hx : p.tables.exec = Jvm.exec) {pc q : Nat} {Ls : Array Slot} {S : List Value} {k : Fin 4} {v : Value} (hd : decode c.code pc = .ok (.aload_n k, 1)) (hq : pc + 1 = q) (hl : Ls[k.val]? = some (.val v)) (hv : v.isRef = true) (k : ownEnds p e below s Q ck sk T (mkF m q Ls (v :: S))) : ownEnds p e below s Q ck sk T (mkF m pc Ls S) := by
  subst hq
  exact ownGo (fun _ k => XS.aloadN X.here hx rfl hd hl hv k) k
theorem ow_iconst (X : Stand p l e R s m args below meth c T locs cells slots) (hx : p.tables.exec = Jvm.exec) {pc q : Nat} {Ls : Array Slot} {S : List Value} {i : Int} (v : Int32) (hd : decode c.code pc = .ok (.iconst i, 1)) (hq : pc + 1 = q) (hz : Int32.ofInt i = v) (k : ownEnds p e below s Q ck sk T (mkF m q Ls (.int v :: S))) : ownEnds p e below s Q ck sk T (mkF m pc Ls S) := by
  subst hq hz
  exact ownGo (fun _ k => XS.iconst X.here hx rfl hd k) k
theorem ow_sipush (X : Stand p l e R s m args below meth c T locs cells slots) (hx : p.tables.exec = Jvm.exec) {pc q : Nat} {Ls : Array Slot} {S : List Value} {i : Int} (v : Int32) (hd : decode c.code pc = .ok (.sipush i, 3)) (hq : pc + 3 = q) (hz : (Int16.ofInt i).toInt32 = v) (k : ownEnds p e below s Q ck sk T (mkF m q Ls (.int v :: S))) : ownEnds p e below s Q ck sk T (mkF m pc Ls S) := by
  subst hq hz
  exact ownGo (fun _ k => XS.sipush X.here hx rfl hd k) k
theorem ow_i2b (X : Stand p l e R s m args below meth c T locs cells slots) (hx : p.tables.exec = Jvm.exec) {pc q : Nat} {Ls : Array Slot} {S : List Value} {x : Int32} (z : Int32) (hd : decode c.code pc = .ok (.i2b, 1)) (hq : pc + 1 = q) (hz : x.toInt8.toInt32 = z) (k : ownEnds p e below s Q ck sk T (mkF m q Ls (.int z :: S))) : ownEnds p e below s Q ck sk T (mkF m pc Ls (.int x :: S)) := by
  subst hq hz
  exact ownGo (fun _ k => XS.i2b X.here hx rfl hd rfl k) k
theorem ow_dup (X : Stand p l e R s m args below meth c T locs cells slots) (hx : p.tables.exec = Jvm.exec) {pc q : Nat} {Ls : Array Slot} {S : List Value} {v : Value} (hd : decode c.code pc = .ok (.dup, 1)) (hq : pc + 1 = q) (hc : v.category = 1) (k : ownEnds p e below s Q ck sk T (mkF m q Ls (v :: v :: S))) : ownEnds p e below s Q ck sk T (mkF m pc Ls (v :: S)) := by
  subst hq
  exact ownGo (fun _ k => XS.dup X.here hx rfl hd rfl hc k) k
theorem ow_goto (X : Stand p l e R s m args below meth c T locs cells slots) (hx : p.tables.exec = Jvm.exec) {pc q : Nat} {Ls : Array Slot} {S : List Value} {o : Int} (hd : decode c.code pc = .ok (.goto o, 3)) (ho : 0 ≤ (pc : Int) + o) (hp : ((pc : Int) + o).toNat = q) (k : ownEnds p e below s Q ck sk T (mkF m q Ls S)) : ownEnds p e below s Q ck sk T (mkF m pc Ls S) :=
  ownGo (fun _ k => XS.goto X.here hx rfl rfl hd ho hp k) k
theorem ow_ifNo (X : Stand p l e R s m args below meth c T locs cells slots) (hx : p.tables.exec = Jvm.exec) {pc q : Nat} {Ls : Array Slot} {S : List Value} {cd : ClassFile.Cond} {o : Int} {x : Int32} (hd : decode c.code pc = .ok (.ifCond cd o, 3)) (hq : pc + 3 = q) (hc : ifCond.holds cd x = false) (k : ownEnds p e below s Q ck sk T (mkF m q Ls S)) : ownEnds p e below s Q ck sk T (mkF m pc Ls (.int x :: S)) := by
  subst hq
  exact ownGo (fun _ k => XS.ifNo X.here hx rfl hd rfl hc k) k
theorem ow_icmpNo (X : Stand p l e R s m args below meth c T locs cells slots) (hx : p.tables.exec = Jvm.exec) {pc q : Nat} {Ls : Array Slot} {S : List Value} {cd : ClassFile.Cond} {o : Int} {x y : Int32} (hd : decode c.code pc = .ok (.if_icmp cd o, 3)) (hq : pc + 3 = q) (hc : if_icmp.holds cd x y = false) (k : ownEnds p e below s Q ck sk T (mkF m q Ls S)) : ownEnds p e below s Q ck sk T (mkF m pc Ls (.int y :: .int x :: S)) := by
  subst hq
  exact ownGo (fun _ k => XS.icmpNo X.here hx rfl hd rfl hc k) k
end OwnSteps
section OwnWalkW
variable {p : Program} {l : Launch} {e : Env} {R : Room} {s : State} {m : MethodId} {args : Array Value} {below : List Frame} {meth : Method} {c : Code} {T T' : State} {locs : List Loc} {cells slots : Nat} {Q : Option Value → Heap → List Loc → Prop} {ck sk : Nat} {f f' : JFrame} {Z : State} {a0 : Array Value} {h h' : Heap}
/-- from this state and frame the invocation returns, and what it leaves is told by Q -/
def ownEndsW (p : Program) (e : Env) (below : List Frame) (s : State) (Q : Option Value → Heap → List Loc → Prop) (ck sk : Nat) (T : State) (f : JFrame) : Prop :=
  ∃ s₂ o, Steps p.tables e below (T.setTop f) s₂ ∧ s₂.status = .running ∧ Ended s₂ below o ∧ ∃ v L, o = .returned v ∧ Q v s₂.heap L ∧ ReturnedEndW s o s₂ L ck sk
theorem ownGoW (st : ∀ target, Steps p.tables e below (T'.setTop f') target → Steps p.tables e below (T.setTop f) target) (k : ownEndsW p e below s Q ck sk T' f') : ownEndsW p e below s Q ck sk T f := by
  obtain ⟨a, b, h1, h2⟩ := k
  exact ⟨a, b, st _ h1, h2⟩
theorem ownRunW (st : Steps p.tables e below (T.setTop f) (T'.setTop f')) (k : ownEndsW p e below s Q ck sk T' f') : ownEndsW p e below s Q ck sk T f :=
  ownGoW (fun _ q => st.trans q) k
theorem ownCastW (q : f = f') (k : ownEndsW p e below s Q ck sk T f') : ownEndsW p e below s Q ck sk T f := q ▸ k
theorem ownRetNW (X : Stand p l e R s m args below meth c T locs cells slots) (hx : p.tables.exec = Jvm.exec) {pc : Nat} {Ls : Array Slot} {z r : Int32} {rest : List Value} {t : FieldType} (ht : t = .boolean ∨ t = .byte ∨ t = .char ∨ t = .short) (hret : meth.sig.returnType = some t) (hd : decode c.code pc = .ok (.ireturn, 1)) (hk : meth.locks = false) (hc : cells ≤ ck) (hs : slots ≤ sk)
    (hz : nar t z = r) (hQ : Q (some (.int r)) T.heap locs) : ownEndsW p e below s Q ck sk T (mkF m pc Ls (.int z :: rest)) := by
  subst hz
  obtain ⟨fs, hr, hrun, hended, hW, hsame⟩ := X.leave (v := some (.int (nar t z))) (fun h => by rw [hret] at h; cases h) hk
  exact ⟨_, _, retN X hx hret ht hd hr, hrun, hended, _, _, rfl, hQ, ReturnedEndW.of_narrow ⟨_, rfl⟩ hW (hsame.mono hc hs)⟩
theorem ownRetRW (X : Stand p l e R s m args below meth c T locs cells slots) (hx : p.tables.exec = Jvm.exec) {pc : Nat} {Ls : Array Slot} {w : Value} {rest : List Value} {t : FieldType} (ht : t.isReference = true) (hn : narrow t w = w) (hw : w.isRef = true) (hret : meth.sig.returnType = some t) (hd : decode c.code pc = .ok (.areturn, 1)) (hk : meth.locks = false) (hc : cells ≤ ck) (hs : slots ≤ sk)
    (hQ : Q (some w) T.heap locs) : ownEndsW p e below s Q ck sk T (mkF m pc Ls (w :: rest)) := by
  obtain ⟨fs, hr, hrun, hended, hW, hsame⟩ := X.leave (v := some w) (fun h => by rw [hret] at h; cases h) hk
  exact ⟨_, _, retOut X hx hret hn (Or.inr (Or.inr (Or.inr (Or.inr ⟨rfl, ht, hw⟩)))) hd hr, hrun, hended, _, _, rfl, hQ, ReturnedEndW.of_narrow ⟨_, rfl⟩ hW (hsame.mono hc hs)⟩
theorem ownRetVW (X : Stand p l e R s m args below meth c T locs cells slots) (hx : p.tables.exec = Jvm.exec) {pc : Nat} {Ls : Array Slot} (hret : meth.sig.returnType = none) (hd : decode c.code pc = .ok (.return_, 1)) (hk : meth.locks = false) (hc : cells ≤ ck) (hs : slots ≤ sk)
    (hQ : Q none T.heap locs) : ownEndsW p e below s Q ck sk T (mkF m pc Ls []) := by
  obtain ⟨fs, hr, hrun, hended, hW, hsame⟩ := X.leave (v := none) (fun _ => rfl) hk
  exact ⟨_, _, X.returnOut hx hret hd hr, hrun, hended, _, _, rfl, hQ, ReturnedEndW.of_narrow ⟨_, rfl⟩ hW (hsame.mono hc hs)⟩
variable {a b : Addr} {ty : FieldType} {n : Nat} {gi : Nat → Int32} {gj : Nat → Int64} {ws : List Addr} {sl : Nat} {v : Value}
end OwnWalkW
section OwnStepsW
variable {p : Program} {l : Launch} {e : Env} {R : Room} {s : State} {m : MethodId} {args : Array Value} {below : List Frame} {meth : Method} {c : Code} {T : State} {locs : List Loc} {cells slots : Nat} {Q : Option Value → Heap → List Loc → Prop} {ck sk : Nat}
theorem ow_iloadNW (X : Stand p l e R s m args below meth c T locs cells slots) (hx : p.tables.exec = Jvm.exec) {pc q : Nat} {Ls : Array Slot} {S : List Value} {k : Fin 4} {v : Int32} (hd : decode c.code pc = .ok (.iload_n k, 1)) (hq : pc + 1 = q) (hl : Ls[k.val]? = some (.val (.int v))) (k : ownEndsW p e below s Q ck sk T (mkF m q Ls (.int v :: S))) : ownEndsW p e below s Q ck sk T (mkF m pc Ls S) := by
  subst hq
  exact ownGoW (fun _ k => XS.iloadN X.here hx rfl hd hl k) k
theorem ow_iloadW (X : Stand p l e R s m args below meth c T locs cells slots) (hx : p.tables.exec = Jvm.exec) {pc q : Nat} {Ls : Array Slot} {S : List Value} {k : Nat} {v : Int32} (hd : decode c.code pc = .ok (.iload k, 2)) (hq : pc + 2 = q) (hl : Ls[k]? = some (.val (.int v))) (k : ownEndsW p e below s Q ck sk T (mkF m q Ls (.int v :: S))) : ownEndsW p e below s Q ck sk T (mkF m pc Ls S) := by
  subst hq
  exact ownGoW (fun _ k => XS.iload X.here hx rfl hd hl k) k
theorem ow_istoreNW (X : Stand p l e R s m args below meth c T locs cells slots) (hx : p.tables.exec = Jvm.exec) {pc q : Nat} {Ls : Array Slot} {S : List Value} {k : Fin 4} {v : Int32} {L' : Array Slot} (hd : decode c.code pc = .ok (.istore_n k, 1)) (hq : pc + 1 = q) (hl : storeLocals Ls k.val (.int v) = some L') (k : ownEndsW p e below s Q ck sk T (mkF m q L' S)) : ownEndsW p e below s Q ck sk T (mkF m pc Ls (.int v :: S)) := by
  subst hq
  exact ownGoW (fun _ k => XS.istoreN X.here hx rfl hd rfl hl k) k
theorem ow_istoreW (X : Stand p l e R s m args below meth c T locs cells slots) (hx : p.tables.exec = Jvm.exec) {pc q : Nat} {Ls : Array Slot} {S : List Value} {k : Nat} {v : Int32} {L' : Array Slot} (hd : decode c.code pc = .ok (.istore k, 2)) (hq : pc + 2 = q) (hl : storeLocals Ls k (.int v) = some L') (k : ownEndsW p e below s Q ck sk T (mkF m q L' S)) : ownEndsW p e below s Q ck sk T (mkF m pc Ls (.int v :: S)) := by
  subst hq
  exact ownGoW (fun _ k => XS.istore X.here hx rfl hd rfl hl k) k
theorem ow_aloadNW (X : Stand p l e R s m args below meth c T locs cells slots) (hx : p.tables.exec = Jvm.exec) {pc q : Nat} {Ls : Array Slot} {S : List Value} {k : Fin 4} {v : Value} (hd : decode c.code pc = .ok (.aload_n k, 1)) (hq : pc + 1 = q) (hl : Ls[k.val]? = some (.val v)) (hv : v.isRef = true) (k : ownEndsW p e below s Q ck sk T (mkF m q Ls (v :: S))) : ownEndsW p e below s Q ck sk T (mkF m pc Ls S) := by
  subst hq
  exact ownGoW (fun _ k => XS.aloadN X.here hx rfl hd hl hv k) k
theorem ow_aloadW (X : Stand p l e R s m args below meth c T locs cells slots) (hx : p.tables.exec = Jvm.exec) {pc q : Nat} {Ls : Array Slot} {S : List Value} {k : Nat} {v : Value} (hd : decode c.code pc = .ok (.aload k, 2)) (hq : pc + 2 = q) (hl : Ls[k]? = some (.val v)) (hv : v.isRef = true) (k : ownEndsW p e below s Q ck sk T (mkF m q Ls (v :: S))) : ownEndsW p e below s Q ck sk T (mkF m pc Ls S) := by
  subst hq
  exact ownGoW (fun _ k => XS.aload X.here hx rfl hd hl hv k) k
theorem ow_astoreW (X : Stand p l e R s m args below meth c T locs cells slots) (hx : p.tables.exec = Jvm.exec) {pc q : Nat} {Ls : Array Slot} {S : List Value} {k : Nat} {v : Value} {L' : Array Slot} (hd : decode c.code pc = .ok (.astore k, 2)) (hq : pc + 2 = q) (hv : v.isRef = true) (hl : storeLocals Ls k v = some L') (k : ownEndsW p e below s Q ck sk T (mkF m q L' S)) : ownEndsW p e below s Q ck sk T (mkF m pc Ls (v :: S)) := by
  subst hq
  exact ownGoW (fun _ k => XS.astore X.here hx rfl hd rfl hv hl k) k
theorem ow_iconstW (X : Stand p l e R s m args below meth c T locs cells slots) (hx : p.tables.exec = Jvm.exec) {pc q : Nat} {Ls : Array Slot} {S : List Value} {i : Int} (v : Int32) (hd : decode c.code pc = .ok (.iconst i, 1)) (hq : pc + 1 = q) (hz : Int32.ofInt i = v) (k : ownEndsW p e below s Q ck sk T (mkF m q Ls (.int v :: S))) : ownEndsW p e below s Q ck sk T (mkF m pc Ls S) := by
  subst hq hz
  exact ownGoW (fun _ k => XS.iconst X.here hx rfl hd k) k
theorem ow_sipushW (X : Stand p l e R s m args below meth c T locs cells slots) (hx : p.tables.exec = Jvm.exec) {pc q : Nat} {Ls : Array Slot} {S : List Value} {i : Int} (v : Int32) (hd : decode c.code pc = .ok (.sipush i, 3)) (hq : pc + 3 = q) (hz : (Int16.ofInt i).toInt32 = v) (k : ownEndsW p e below s Q ck sk T (mkF m q Ls (.int v :: S))) : ownEndsW p e below s Q ck sk T (mkF m pc Ls S) := by
  subst hq hz
  exact ownGoW (fun _ k => XS.sipush X.here hx rfl hd k) k
theorem ow_iandW (X : Stand p l e R s m args below meth c T locs cells slots) (hx : p.tables.exec = Jvm.exec) {pc q : Nat} {Ls : Array Slot} {S : List Value} {x y : Int32} (z : Int32) (hd : decode c.code pc = .ok (.iand, 1)) (hq : pc + 1 = q) (hz : x &&& y = z) (k : ownEndsW p e below s Q ck sk T (mkF m q Ls (.int z :: S))) : ownEndsW p e below s Q ck sk T (mkF m pc Ls (.int y :: .int x :: S)) := by
  subst hq hz
  exact ownGoW (fun _ k => XS.iand X.here hx rfl hd rfl k) k
theorem ow_iushrW (X : Stand p l e R s m args below meth c T locs cells slots) (hx : p.tables.exec = Jvm.exec) {pc q : Nat} {Ls : Array Slot} {S : List Value} {x y : Int32} (z : Int32) (hd : decode c.code pc = .ok (.iushr, 1)) (hq : pc + 1 = q) (hz : (x.toUInt32 >>> (y &&& 31).toUInt32).toInt32 = z) (k : ownEndsW p e below s Q ck sk T (mkF m q Ls (.int z :: S))) : ownEndsW p e below s Q ck sk T (mkF m pc Ls (.int y :: .int x :: S)) := by
  subst hq hz
  exact ownGoW (fun _ k => XS.iushr X.here hx rfl hd rfl k) k
theorem ow_i2cW (X : Stand p l e R s m args below meth c T locs cells slots) (hx : p.tables.exec = Jvm.exec) {pc q : Nat} {Ls : Array Slot} {S : List Value} {x : Int32} (z : Int32) (hd : decode c.code pc = .ok (.i2c, 1)) (hq : pc + 1 = q) (hz : x.toUInt32.toUInt16.toUInt32.toInt32 = z) (k : ownEndsW p e below s Q ck sk T (mkF m q Ls (.int z :: S))) : ownEndsW p e below s Q ck sk T (mkF m pc Ls (.int x :: S)) := by
  subst hq hz
  exact ownGoW (fun _ k => XS.i2c X.here hx rfl hd rfl k) k
theorem ow_dupW (X : Stand p l e R s m args below meth c T locs cells slots) (hx : p.tables.exec = Jvm.exec) {pc q : Nat} {Ls : Array Slot} {S : List Value} {v : Value} (hd : decode c.code pc = .ok (.dup, 1)) (hq : pc + 1 = q) (hc : v.category = 1) (k : ownEndsW p e below s Q ck sk T (mkF m q Ls (v :: v :: S))) : ownEndsW p e below s Q ck sk T (mkF m pc Ls (v :: S)) := by
  subst hq
  exact ownGoW (fun _ k => XS.dup X.here hx rfl hd rfl hc k) k
theorem ow_aconstNullW (X : Stand p l e R s m args below meth c T locs cells slots) (hx : p.tables.exec = Jvm.exec) {pc q : Nat} {Ls : Array Slot} {S : List Value}  (hd : decode c.code pc = .ok (.aconst_null, 1)) (hq : pc + 1 = q) (k : ownEndsW p e below s Q ck sk T (mkF m q Ls (.null :: S))) : ownEndsW p e below s Q ck sk T (mkF m pc Ls S) := by
  subst hq
  exact ownGoW (fun _ k => XS.aconstNull X.here hx rfl hd k) k
theorem ow_gotoW (X : Stand p l e R s m args below meth c T locs cells slots) (hx : p.tables.exec = Jvm.exec) {pc q : Nat} {Ls : Array Slot} {S : List Value} {o : Int} (hd : decode c.code pc = .ok (.goto o, 3)) (ho : 0 ≤ (pc : Int) + o) (hp : ((pc : Int) + o).toNat = q) (k : ownEndsW p e below s Q ck sk T (mkF m q Ls S)) : ownEndsW p e below s Q ck sk T (mkF m pc Ls S) :=
  ownGoW (fun _ k => XS.goto X.here hx rfl rfl hd ho hp k) k
theorem ow_ifYesW (X : Stand p l e R s m args below meth c T locs cells slots) (hx : p.tables.exec = Jvm.exec) {pc q : Nat} {Ls : Array Slot} {S : List Value} {cd : ClassFile.Cond} {o : Int} {x : Int32} (hd : decode c.code pc = .ok (.ifCond cd o, 3)) (hc : ifCond.holds cd x = true) (ho : 0 ≤ (pc : Int) + o) (hp : ((pc : Int) + o).toNat = q) (k : ownEndsW p e below s Q ck sk T (mkF m q Ls S)) : ownEndsW p e below s Q ck sk T (mkF m pc Ls (.int x :: S)) :=
  ownGoW (fun _ k => XS.ifYes X.here hx rfl rfl hd rfl hc ho hp k) k
theorem ow_ifNoW (X : Stand p l e R s m args below meth c T locs cells slots) (hx : p.tables.exec = Jvm.exec) {pc q : Nat} {Ls : Array Slot} {S : List Value} {cd : ClassFile.Cond} {o : Int} {x : Int32} (hd : decode c.code pc = .ok (.ifCond cd o, 3)) (hq : pc + 3 = q) (hc : ifCond.holds cd x = false) (k : ownEndsW p e below s Q ck sk T (mkF m q Ls S)) : ownEndsW p e below s Q ck sk T (mkF m pc Ls (.int x :: S)) := by
  subst hq
  exact ownGoW (fun _ k => XS.ifNo X.here hx rfl hd rfl hc k) k
theorem ow_icmpYesW (X : Stand p l e R s m args below meth c T locs cells slots) (hx : p.tables.exec = Jvm.exec) {pc q : Nat} {Ls : Array Slot} {S : List Value} {cd : ClassFile.Cond} {o : Int} {x y : Int32} (hd : decode c.code pc = .ok (.if_icmp cd o, 3)) (hc : if_icmp.holds cd x y = true) (ho : 0 ≤ (pc : Int) + o) (hp : ((pc : Int) + o).toNat = q) (k : ownEndsW p e below s Q ck sk T (mkF m q Ls S)) : ownEndsW p e below s Q ck sk T (mkF m pc Ls (.int y :: .int x :: S)) :=
  ownGoW (fun _ k => XS.icmpYes X.here hx rfl rfl hd rfl hc ho hp k) k
theorem ow_icmpNoW (X : Stand p l e R s m args below meth c T locs cells slots) (hx : p.tables.exec = Jvm.exec) {pc q : Nat} {Ls : Array Slot} {S : List Value} {cd : ClassFile.Cond} {o : Int} {x y : Int32} (hd : decode c.code pc = .ok (.if_icmp cd o, 3)) (hq : pc + 3 = q) (hc : if_icmp.holds cd x y = false) (k : ownEndsW p e below s Q ck sk T (mkF m q Ls S)) : ownEndsW p e below s Q ck sk T (mkF m pc Ls (.int y :: .int x :: S)) := by
  subst hq
  exact ownGoW (fun _ k => XS.icmpNo X.here hx rfl hd rfl hc k) k
end OwnStepsW

section OwnWide
variable {p : Program} {l : Launch} {e : Env} {R : Room} {s : State} {m : MethodId} {args : Array Value} {below : List Frame} {meth : Method} {c : Code} {T T' : State} {locs : List Loc} {cells slots : Nat} {Q : Option Value → Heap → List Loc → Prop} {ck sk : Nat} {f f' : JFrame} {Z : State} {a0 : Array Value} {h h' : Heap}
/-- the walk goes on over the start with other tables -/
theorem ownBaseW {k : Nat} {vm' : Vm} (hS : s.Since vm' k) (K : ownEndsW p e below (s.setVm vm') (fun v h L => Q v h L ∧ k ≤ h.size) ck sk T f) : ownEndsW p e below s Q ck sk T f := by
  obtain ⟨s₂, o, h1, h2, h3, v, L, ho, ⟨hQ, hk⟩, hr, hW, hB, hs⟩ := K
  have h4 := hS.trans (vm₂ := s₂.vm) (n₂ := s₂.heap.size) ⟨hW, hB⟩ hk
  exact ⟨s₂, o, h1, h2, h3, v, L, ho, hQ, hr, h4.1, h4.2, hs.setVm s.vm⟩
theorem ownRebaseW {own : String} (hZ : Z.Warmed39 s.vm) (hown : s.vm.findClass own = some m.cls) {vm' : Vm} {k : Nat} (hS : s.Since vm' k) (X : Stand p l e R (s.setVm vm') m args below meth c T locs cells slots)
    (K : ∀ s', Stand p l e R s' m args below meth c T locs cells slots → Z.Warmed39 s'.vm → s'.vm.findClass own = some m.cls → ownEndsW p e below s' (fun v h L => Q v h L ∧ k ≤ h.size) ck sk T f) : ownEndsW p e below s Q ck sk T f :=
  ownBaseW hS (K _ X (State.Warmed39.trans hZ hS.1) (by show vm'.findClass own = _; rw [hS.1.alike.findClass]; exact hown))
/-- a String constant is loaded: which cell, not what she says -/
theorem ownLdc (X : Stand p l e R s m args below meth c T locs cells slots) (hx : p.tables.exec = Jvm.exec) (hZ : Z.Warmed39 s.vm) {own text : String} {index : Nat} (hown : s.vm.findClass own = some m.cls) (w : (Jvm.Cond.stringLink own index text).before a0 Z = true) (wS : ∀ d ∈ Bundle.stringAtoms, d.before a0 Z = true)
    (eT : T.heap = h) {g : JFrame} (hg : g.method = m) (hd : decode c.code g.pc = .ok (.ldc index, 2)) {n : Nat} (hn : 4 * text.toList.length ≤ n) (hbig : n ≤ 536870912) (hc : cells + 2 ≤ R.cells) (hl : slots + (n + 4) ≤ R.slots) :
    ∃ (a : Addr) (T' : State) (h' : Heap), Stand p l e R (s.setVm T'.vm) m args below meth c T' locs (cells + 2) (slots + (n + 4)) ∧ s.Since T'.vm h'.size ∧ T'.heap = h' ∧ Ext h h' ∧
      ∀ target, Steps p.tables e below (T'.setTop { g with pc := g.pc + 2, stack := .ref a :: g.stack }) target → Steps p.tables e below (T.setTop g) target := by
  obtain ⟨a, T', X', hS', -, hb, -, st⟩ := X.ldcStringCold hx (own := own) hown (mvS (s := s) hZ w) (fun d hd => by
    have q := wS d hd
    simp only [Bundle.stringAtoms, List.mem_cons, List.not_mem_nil, or_false] at hd
    rcases hd with rfl | rfl | rfl | rfl | rfl | rfl | rfl
    · exact mv hZ q
    · exact mv hZ q
    · exact mvA hZ q
    · exact mv hZ q
    · exact mv hZ q
    · exact mv hZ q
    · exact mv hZ q) hg hd hn hbig hc hl
  subst eT
  exact ⟨a, T', _, X', hS', rfl, ext_of hb, st⟩
theorem ownWrSz {a : Addr} {sl : Nat} {v : Value} (W : Wr h h' a sl v) : h.size ≤ h'.size := by obtain ⟨c0, -, -, -, rfl⟩ := W; simp
theorem ownAI0 {b : Addr} {k : ClassId} {ty : FieldType} {d : Value} (A : Arv Z h b k ty 0 [] d) : ownAI Z h b ty 0 (fun _ => 0) := by
  obtain ⟨c, A, -, S, -⟩ := A
  exact ⟨c, A, S, by decide, fun i hi => absurd hi (Nat.not_lt_zero _)⟩
theorem ownSafeNew {EL : List (String × Nat)} {vm : Vm} {x : Addr} (q : x = h.size) (H : CHv Z EL vm h) (E : Ext h h') : Safe Z EL vm h' x := by
  refine Safe.ext E H fun B => ?_
  obtain ⟨c, hc⟩ := B.there
  subst q
  have := (Array.getElem?_eq_some_iff.mp hc).1
  omega
/-- what a wide callee's theorem pays, where it loads a constant whose text is told -/
theorem backOfX {EL : List (String × Nat)} {x : Addr} {y : MethodName} {bytes : ByteArray} {maxL : Nat} {ret : Option FieldType} {rm : Room} {len W : Nat} {as' : Array Value}
    (hM : MetFree l y (head1 [Jvm.Cond.code y bytes maxL ret] rm) (fun a U => a = as' ∧ Z.Warmed39 U.vm ∧ U.heap = h ∧ CHv Z EL U.vm h ∧ Safe Z EL U.vm h x) (fun _ _ _ _ _ => True) (fun _ U o U' => ∃ v L, o = .returned v ∧ Q v U'.heap L ∧ ReturnedEndW U o U' L rm.cells rm.slots))
    (hZ : Z.Warmed39 s.vm) (wc : (Jvm.Cond.code y bytes maxL ret).before a0 Z = true) (wz : (Jvm.Cond.initialized y.cls).before a0 Z = true) (hf : rm.frames + 1 ≤ R.frames) (hl : W + (maxL + 11) + rm.locals ≤ R.locals)
    (hEL : EW Z a0 EL) (H : CHv Z EL s.vm h) (S : Safe Z EL s.vm h x) (hlt : x < h.size) :
    BackS l R p e below s args y len W (fun A a => a = as' ∧ A.U.heap = h ∧ A.cells + rm.cells ≤ R.cells ∧ A.slots + rm.slots ≤ R.slots)
      (fun A _ v B => ∃ L, Q v B.U.heap L ∧ B.locs = A.locs ++ L ∧ B.cells = A.cells + rm.cells ∧ B.slots = A.slots + rm.slots) :=
  BackS.of_freeW (bytes := bytes) (maxL := maxL) (ret := ret) (E := fun _ _ o t L k n => k = rm.cells ∧ n = rm.slots ∧ ∃ v, o = .returned v ∧ Q v t.heap L) hM hf hl
    (fun m meth c A a Y hp => have hU : Z.Warmed39 A.U.vm := wtrans hZ Y.warmed
      ⟨by show (Jvm.Cond.and _ .tt).before a A.U = true; rw [Cond.before_and, mv hU wc]; rfl, mv hU wc, mv hU wz, hp.2.2.1, hp.2.2.2⟩)
    (fun m meth c A a g mk Y hp => have cr := CHv.at (s := s) (vm0 := s.vm) Y hZ hEL H
      ⟨hp.1, wtrans hZ Y.warmed, hp.2.1, cr.1, cr.safe hlt S⟩) (fun _ _ _ _ _ _ _ _ _ => trivial)
    (fun _ _ _ _ ⟨v, L, h1, h2, h3⟩ => ⟨L, _, _, h3, rfl, rfl, v, h1, h2⟩)
    (fun m meth c A a g mk v t L k n Y hp _ _ ⟨e1, e2, v', e3, e4⟩ => by cases e3; subst e1 e2; exact ⟨L, e4, rfl, rfl, rfl⟩)
/-- what a wide callee's theorem pays -/
theorem backOfW {y : MethodName} {bytes : ByteArray} {maxL : Nat} {ret : Option FieldType} {rm : Room} {len W : Nat} {as' : Array Value}
    (hM : MetFree l y (head1 [Jvm.Cond.code y bytes maxL ret] rm) (fun a U => a = as' ∧ Z.Warmed39 U.vm ∧ U.heap = h) (fun _ _ _ _ _ => True) (fun _ U o U' => ∃ v L, o = .returned v ∧ Q v U'.heap L ∧ ReturnedEndW U o U' L rm.cells rm.slots))
    (hZ : Z.Warmed39 s.vm) (wc : (Jvm.Cond.code y bytes maxL ret).before a0 Z = true) (wz : (Jvm.Cond.initialized y.cls).before a0 Z = true) (hf : rm.frames + 1 ≤ R.frames) (hl : W + (maxL + 11) + rm.locals ≤ R.locals) :
    BackS l R p e below s args y len W (fun A a => a = as' ∧ A.U.heap = h ∧ A.cells + rm.cells ≤ R.cells ∧ A.slots + rm.slots ≤ R.slots)
      (fun A _ v B => ∃ L, Q v B.U.heap L ∧ B.locs = A.locs ++ L ∧ B.cells = A.cells + rm.cells ∧ B.slots = A.slots + rm.slots) :=
  BackS.of_freeW (bytes := bytes) (maxL := maxL) (ret := ret) (E := fun _ _ o t L k n => k = rm.cells ∧ n = rm.slots ∧ ∃ v, o = .returned v ∧ Q v t.heap L) hM hf hl
    (fun m meth c A a Y hp => have hU : Z.Warmed39 A.U.vm := wtrans hZ Y.warmed
      ⟨by show (Jvm.Cond.and _ .tt).before a A.U = true; rw [Cond.before_and, mv hU wc]; rfl, mv hU wc, mv hU wz, hp.2.2.1, hp.2.2.2⟩)
    (fun m meth c A a g mk Y hp => ⟨hp.1, wtrans hZ Y.warmed, hp.2.1⟩) (fun _ _ _ _ _ _ _ _ _ => trivial)
    (fun _ _ _ _ ⟨v, L, h1, h2, h3⟩ => ⟨L, _, _, h3, rfl, rfl, v, h1, h2⟩)
    (fun m meth c A a g mk v t L k n Y hp _ _ ⟨e1, e2, v', e3, e4⟩ => by cases e3; subst e1 e2; exact ⟨L, e4, rfl, rfl, rfl⟩)
theorem callSW (X : Stand p l e R s m args below meth c T locs cells slots) (hexec : p.tables.exec = Jvm.exec) {own : String} {index : Nat} {y : MethodName} {bytes : ByteArray} {maxL : Nat} {ret : Option FieldType}
    (hown : s.vm.findClass own = some m.cls) (hlink : (Jvm.Cond.methodLink own index y).before args s = true) (hstat : (Jvm.Cond.static y).before args s = true) (hinit : (Jvm.Cond.initialized y.cls).before args s = true)
    (hcode : (Jvm.Cond.code y bytes maxL ret).before args s = true) (hy : y.cls ≠ "java/lang/invoke/MethodHandle" ∧ y.cls ≠ "java/lang/invoke/VarHandle")
    {W : Nat} {Pre : Pt → Array Value → Prop} {Post : Pt → Array Value → Option Value → Pt → Prop} (hK : BackS l R p e below s args y 3 W Pre Post)
    {g : JFrame} (hg : g.method = m) (hsize : g.locals.size = c.maxLocals) {argsL rest : List Value} (hlen : ∀ sig, parseMethodDescriptor y.desc = some sig → argsL.length = sig.parameters.length)
    (hstack : g.stack = argsL.reverse ++ rest) (hW : 2 * g.monitorRoom + (rest.map fun v => v.category).sum ≤ W) (hdg : decode c.code g.pc = .ok (.invokestatic index, 3))
    (hpre : ∀ vm₁, s.WarmedH vm₁ → Pre ⟨T.setVm vm₁, locs, cells, slots⟩ argsL.toArray) :
    ∃ (v : Option Value) (vm₁ : Vm) (B : Pt), s.WarmedH vm₁ ∧ Stand p l e R (s.setVm B.U.vm) m args below meth c B.U B.locs B.cells B.slots ∧ s.Since B.U.vm B.U.heap.size ∧ T.heap.size ≤ B.U.heap.size ∧ Post ⟨T.setVm vm₁, locs, cells, slots⟩ argsL.toArray v B ∧
      Steps p.tables e below (T.setTop g) (B.U.setTop { g with pc := g.pc + 3, stack := v.toList ++ rest }) := by
  obtain ⟨mk, hnamed⟩ := Cond.code_named hcode
  obtain ⟨methM, cM, hmethM, -, -, -, -, -, -, hsigM⟩ := Cond.code_spec hnamed hcode
  exact X.staticBackS hexec hown hlink hstat hinit hnamed hmethM hsigM hy hK hg hsize (Steps.refl _) hlen hstack hW hdg hpre
end OwnWide
theorem own_strW : ∀ d ∈ StrChars.Road.words, d ∈ tables_1 := by decide +kernel
theorem own_n32 {n : Nat} (h : n ≤ 4000) : (Int32.ofNat n).toInt = n := Int32.toInt_ofNat_of_lt (by omega)
theorem ownStr {p : Program} {l : Launch} {e : Env} {R : Room} {s : State} {args : Array Value} {below : List Frame} {len W : Nat} {Z : State} {a0 : Array Value} {h : Heap} (hZ : Z.Warmed39 s.vm) (hw : ∀ d ∈ StrChars.Road.words, d.before a0 Z = true) {kI : Nat} (wi : (Jvm.Cond.instantiable "java/lang/String" kI).before a0 Z = true)
    {x b : Addr} {g : Nat → Int32} {v0 c0 : Value} {z : Int32} {n n0 : Nat} (hh0 : n0 ≤ h.size) (E : Exa Z h x "java/lang/String") (V : Fld Z h x "java/lang/String" "value" "[B" v0) (C : Fld Z h x "java/lang/String" "coder" "B" c0) (K : ownAI Z h b .char n g) (S : Sta Z h "java/lang/String" "COMPACT_STRINGS" "Z" (.int z)) (hx0 : n0 ≤ x) (hz : ¬ z = 0)
    (hp : ∀ i, i < n → ¬ g i < 0 ∧ ¬ (255 : Int32) < g i) (l0 : 0 < n) (l2 : n ≤ 4000) (hfr : 4 ≤ R.frames) (hlo : W + 65 ≤ R.locals) :
    Back l R p e below s args (⟨"java/lang/String", "<init>", "([C)V"⟩ : MethodName) len W (fun P a => a = #[.ref x, .ref b] ∧ P.U.heap = h ∧ P.cells + 1 ≤ R.cells ∧ P.slots + n ≤ R.slots)
      (fun P _ v B => ∃ L, (∃ t : Addr, v = none ∧ Fr n0 L ∧ Keep h B.U.heap [x] ∧ h.size ≤ t ∧ Fld Z B.U.heap x "java/lang/String" "coder" "B" (.int 0) ∧ Fld Z B.U.heap x "java/lang/String" "value" "[B" (.ref t) ∧ ownAI Z B.U.heap t .byte n (fun i => (g i).toInt8.toInt32)) ∧ B.locs = P.locs ++ L ∧ B.cells = P.cells + 1 ∧ B.slots = P.slots + n) := by
  obtain ⟨cl, A, Sz, Nl, Hg⟩ := K
  have hN := own_n32 l2
  have hNN : (Int32.ofNat n).toNatClampNeg = n := by simp only [Int32.toNatClampNeg, hN]; omega
  have K' : Arv Z h b cl.cls .char (Int32.ofNat n) (((List.range n).map g).map Value.int) (.int 0) := by
    refine ⟨cl, A, rfl, by rw [Sz, hNN], by rw [Int32.lt_iff_toInt_lt, hN]; simp only [Int32.reduceToInt]; omega, ?_, ?_⟩
    · intro k hk
      rw [Sz] at hk
      rw [Hg k hk]
      simp [List.getD, hk]
    · intro i hi
      rw [Sz] at hi
      have q := hp i hi
      have e1 : (List.map Value.int (List.map g (List.range n))).getD i (.int 0) = .int (g i) := by simp [List.getD, hi]
      rw [e1]
      simp only [Int32.lt_iff_toInt_lt, Int32.reduceToInt] at q
      simp only [fits, Bool.and_eq_true, decide_eq_true_eq, Int32.le_iff_toInt_le, Int32.reduceToInt]
      omega
  refine Back.mono (StrChars.Road.backV (cs := (List.range n).map g) hZ hw wi hx0 hh0 E V C K' S hz (by simp) rfl l0 l2 ?_ rfl hfr hlo) (fun _ _ h => h) (fun P a v B hp hq => ?_)
  · intro c hc
    simp only [List.mem_map, List.mem_range] at hc
    obtain ⟨i, hi, rfl⟩ := hc
    exact hp i hi
  · obtain ⟨L, ⟨q1, q2, q3, q4, q5, t, kb, q6, q7, q8, q9, ⟨cl', A', -, S', -, H', -⟩⟩, r⟩ := hq
    refine ⟨L, ⟨t, q1, q2, q3, q7, q5, q9, cl', A', by rw [S', hNN], by omega, fun i hi => ?_⟩, r⟩
    rw [H' i (by rw [S', hNN]; exact hi)]
    simp [List.getD, hi]

theorem own_ltI {a b : Int32} (h : a < b) : a.toInt < b.toInt := Int32.lt_iff_toInt_lt.mp h
theorem own_nltI {a b : Int32} (h : ¬ a < b) : b.toInt ≤ a.toInt := by rw [Int32.lt_iff_toInt_lt] at h; omega
theorem own_small {p : Int32} {n : Nat} (h1 : 0 ≤ p.toInt) (h2 : p.toInt < n) (hn : n ≤ 2147483648) : ∃ k : Fin n, p = Int32.ofNat k.val ∧ p.toInt = k.val := by
  have e : p = Int32.ofNat p.toInt.toNat := by
    apply Int32.toInt_inj.mp
    rw [Int32.toInt_ofNat_of_lt (by omega)]
    omega
  exact ⟨⟨p.toInt.toNat, by omega⟩, e, by simp only; omega⟩
theorem own_in {i z : Int32} {n : Nat} (h0 : ¬ i < 0) (h1 : i < z) (e : z.toNatClampNeg = n) : ownIn i n := by
  subst e
  have a := own_nltI h0
  have b := own_ltI h1
  simp only [Int32.reduceToInt] at a
  exact ownIn_of a (by simp only [Int32.toNatClampNeg]; omega)
theorem own_in2 {i z : Int32} {n : Nat} (h0 : ¬ i < 0) (h1 : i < z) (e : z.toNatClampNeg = n) : i.toNatClampNeg < n := by
  subst e
  have a := own_nltI h0
  have b := own_ltI h1
  simp only [Int32.reduceToInt] at a
  simp only [Int32.toNatClampNeg]; omega

theorem own_a255 {a v : Int32} (h : (a &&& (255 : Int32)).toUInt32.toUInt16.toUInt32.toInt32 = v) : ¬ v < (0 : Int32) ∧ ¬ (255 : Int32) < v := by
  have m := Jvm.Kit.i32_mask a 255 (k := 8) (by decide) (by decide)
  have m0 : 0 ≤ (a &&& 255).toInt ∧ (a &&& 255).toInt < 256 := by rw [m]; omega
  obtain ⟨k, e, -⟩ := own_small (p := a &&& 255) (n := 256) m0.1 (by omega) (by decide)
  subst h
  rw [e]
  exact (by decide +kernel : ∀ k : Fin 256, ¬ (Int32.ofNat k.val).toUInt32.toUInt16.toUInt32.toInt32 < (0 : Int32) ∧ ¬ (255 : Int32) < (Int32.ofNat k.val).toUInt32.toUInt16.toUInt32.toInt32) k
theorem own_2550 {f : Nat → Int32} : ∀ k, k < 0 → ¬ f k < (0 : Int32) ∧ ¬ (255 : Int32) < f k := fun k hk => absurd hk (Nat.not_lt_zero _)
theorem own_255U {f : Nat → Int32} {x : Int32} {j : Nat} (hx : ¬ x < (0 : Int32) ∧ ¬ (255 : Int32) < x) (h : ∀ k, k < j → ¬ f k < (0 : Int32) ∧ ¬ (255 : Int32) < f k) : ∀ k, k < j + 1 → ¬ ownUpd f j x k < (0 : Int32) ∧ ¬ (255 : Int32) < ownUpd f j x k := by
  intro k hk
  by_cases q : k = j
  · subst q; rw [ownUpd_same]; exact hx
  · rw [ownUpd_ne _ _ q]; exact h k (by omega)
theorem own_EW {Z : State} {a0 : Array Value} (hw : ∀ d ∈ tables_1, d.before a0 Z = true) : EW Z a0 [("java/lang/String", 7)] := EW.cons (hw _ (List.mem_of_getElem? (i := 68) rfl)) (by decide) EW.nil
theorem own_pn_String : plainName "java/lang/String" = true := by first | (simp [plainName, overriddenIn]; done) | decide +kernel
theorem own_d12_0 : decode jdk_42_method_149_code 0 = .ok (.aload_n 0, 1) := by decide +kernel
theorem own_d12_1 : decode jdk_42_method_149_code 1 = .ok (.invokespecial 1, 3) := by decide +kernel
theorem own_d12_4 : decode jdk_42_method_149_code 4 = .ok (.iload_n 3, 1) := by decide +kernel
theorem own_d12_5 : decode jdk_42_method_149_code 5 = .ok (.ifCond .ne 22, 3) := by decide +kernel
theorem own_d12_8 : decode jdk_42_method_149_code 8 = .ok (.aload_n 0, 1) := by decide +kernel
theorem own_d12_9 : decode jdk_42_method_149_code 9 = .ok (.ldc 7, 2) := by decide +kernel
theorem own_d12_11 : decode jdk_42_method_149_code 11 = .ok (.getfield 9, 3) := by decide +kernel
theorem own_d12_14 : decode jdk_42_method_149_code 14 = .ok (.putfield 9, 3) := by decide +kernel
theorem own_d12_17 : decode jdk_42_method_149_code 17 = .ok (.aload_n 0, 1) := by decide +kernel
theorem own_d12_18 : decode jdk_42_method_149_code 18 = .ok (.ldc 7, 2) := by decide +kernel
theorem own_d12_20 : decode jdk_42_method_149_code 20 = .ok (.getfield 15, 3) := by decide +kernel
theorem own_d12_23 : decode jdk_42_method_149_code 23 = .ok (.putfield 15, 3) := by decide +kernel
theorem own_d12_26 : decode jdk_42_method_149_code 26 = .ok (.return_, 1) := by decide +kernel
theorem own_ef12_emp4 (m : MethodId) (sx : Addr) (sb : Addr) : entryFrame m #[(.ref sx), (.ref sb), (.int (0 : Int32)), (.int (0 : Int32)), .null] 6 = mkF m 0 #[rv sx, rv sb, iv (0 : Int32), iv (0 : Int32), .val .null, .unset] [] := by first | (simp [entryFrame, mkF, argsToLocals, Value.category]; done) | rfl
def Q_emp4 (Z : State) (sx : Addr) (sb : Addr) (h0 : Heap) (n0 : Nat) (v : Option Value) (h : Heap) (L : List Loc) : Prop := ∃ (t : Addr), v = none ∧ Fr n0 L ∧ Keep h0 h [sx] ∧ Fld Z h sx "java/lang/String" "coder" "B" (.int (0 : Int32)) ∧ Fld Z h sx "java/lang/String" "value" "[B" (.ref t) ∧ ownAI Z h t .byte 0 (fun _ => (0 : Int32))
set_option maxRecDepth 65536 in
set_option maxHeartbeats 40000000 in
theorem rm_emp4 (l : Launch) (Z : State) (av0 : Array Value) (hw : ∀ d ∈ tables_1, d.before av0 Z = true) (ws : List Jvm.Cond) (sx : Addr) (sb : Addr) (h0 : Heap) (n0 : Nat) (Z0 : n0 ≤ h0.size) (HF0 : Exa Z h0 sx "java/lang/String") (HF1 : Fld Z h0 sx "java/lang/String" "value" "[B" .null) (HF2 : Fld Z h0 sx "java/lang/String" "coder" "B" (.int (0 : Int32))) (G_sx : n0 ≤ sx) :
    MetFree l (⟨"java/lang/String", "<init>", "([CIILjava/lang/Void;)V"⟩ : MethodName) (head1 (Jvm.Cond.code (⟨"java/lang/String", "<init>", "([CIILjava/lang/Void;)V"⟩ : MethodName) jdk_42_method_149_code 6 none :: ws) ({ frames := 1, cells := 2, slots := 4, locals := 12 } : Room)) (fun a U => a = #[(.ref sx), (.ref sb), (.int (0 : Int32)), (.int (0 : Int32)), .null] ∧ Z.Warmed39 U.vm ∧ U.heap = h0 ∧ CHv Z [("java/lang/String", 7)] U.vm h0 ∧ Safe Z [("java/lang/String", 7)] U.vm h0 sx) (fun _ _ _ _ _ => True) (fun _ U o U' => ∃ v L, o = .returned v ∧ (Q_emp4 Z sx sb h0 n0) v U'.heap L ∧ ReturnedEndW U o U' L ({ frames := 1, cells := 2, slots := 4, locals := 12 } : Room).cells ({ frames := 1, cells := 2, slots := 4, locals := 12 } : Room).slots) := by
  refine MetFree.of_bodySF (plainFor_of_name own_pn_String) hisR ?_
  intro p e s m args below meth c s₁ Bd hml0 hP hK
  obtain ⟨rfl, hZ, hh, hCH, hSf⟩ := hP
  have hx := Bd.exec
  have hby := Bd.bytes
  have hml : c.maxLocals = 6 := hml0
  have hown : s.vm.findClass "java/lang/String" = some m.cls := findClass_of_methodNamed Bd.named
  have hnm := (name_of_methodNamed Bd.named Bd.method).1
  have hlk : meth.locks = false := BodyLoose.notSynchronized Bd
  have X0 : Stand p l e ({ frames := 1, cells := 2, slots := 4, locals := 12 } : Room) s m #[(.ref sx), (.ref sb), (.int (0 : Int32)), (.int (0 : Int32)), .null] below meth c s₁ [] 0 0 := Stand.of_body Bd
  have e0 : s₁.heap = h0 := by rw [← hh, Bd.state]; rfl
  have N0 := Fr.nil n0
  have K0 : Keep h0 h0 [sx] := Keep.refl _ _
  have ww : ∀ (k : Nat) {d : Jvm.Cond}, tables_1[k]? = some d → d.before av0 Z = true := fun k d h => hw d (List.mem_of_getElem? h)
  have wStr : ∀ d ∈ Bundle.stringAtoms, d.before av0 Z = true := fun d hd => hw d ((by decide +kernel : ∀ d ∈ Bundle.stringAtoms, d ∈ tables_1) d hd)
  show ownEndsW p e below s (Q_emp4 Z sx sb h0 n0) ({ frames := 1, cells := 2, slots := 4, locals := 12 } : Room).cells ({ frames := 1, cells := 2, slots := 4, locals := 12 } : Room).slots s₁ (entryFrame m #[(.ref sx), (.ref sb), (.int (0 : Int32)), (.int (0 : Int32)), .null] 6)
  refine ownCastW (own_ef12_emp4 m sx sb) ?_
  refine ow_aloadNW (q := 1) X0 hx (hb hby own_d12_0) rfl rfl rfl ?_
  obtain ⟨T1, X1, e1, st1⟩ := initO X0 hx hZ hown (ww 19 rfl) (ww 20 rfl) (ww 21 rfl) e0 (g := (mkF m 1 #[rv sx, rv sb, iv (0 : Int32), iv (0 : Int32), .val .null, .unset] [(.ref sx)])) rfl (by rw [hml]; rfl) rfl (hb hby own_d12_1) (by decide) (W := 0) (by show 2 * 0 + _ ≤ _; exact Nat.le_of_eq rfl) (by decide)
  refine ownGoW (T' := T1) (f' := (mkF m 4 #[rv sx, rv sb, iv (0 : Int32), iv (0 : Int32), .val .null, .unset] [])) (st1) ?_
  refine ow_iloadNW (q := 5) X1 hx (hb hby own_d12_4) rfl rfl ?_
  refine ow_ifNoW (q := 8) X1 hx (hb hby own_d12_5) rfl (Jvm.Free.XT.i0_ne_f (by decide)) ?_
  refine ow_aloadNW (q := 9) X1 hx (hb hby own_d12_8) rfl rfl rfl ?_
  obtain ⟨ca, T2, h2, k2, cb, kk2, X2, e2, E2, hS2, hk2, hZ2, hown2, A2, FC2, FV2, AV2, la2, lb2, CR2, LT2, sf2, st2⟩ := ldcCH (s := s) (vm0 := s.vm) X1 hx hZ hown (ww 68 rfl) wStr e1 (k0 := 0) ((State.WarmedH.refl s).since 0) (Nat.zero_le _) (own_EW hw) (List.mem_singleton.mpr rfl) hCH (vs := []) (z := 0) ⟨by decide, rfl⟩ (by decide) rfl (g := (mkF m 9 #[rv sx, rv sb, iv (0 : Int32), iv (0 : Int32), .val .null, .unset] [(.ref sx)])) rfl (hb hby own_d12_9) (n := 0) (by decide) (by decide) (by decide) (by decide)
  have ne2 := sf2 sx (CR2.safe HF0.lt hSf)
  have K2 : Keep h0 h2 [sx] := K0.ext E2
  have F3 : Exa Z h2 sx "java/lang/String" := HF0.ext E2
  have F4 : Fld Z h2 sx "java/lang/String" "value" "[B" .null := HF1.ext E2
  have F5 : Fld Z h2 sx "java/lang/String" "coder" "B" (.int (0 : Int32)) := HF2.ext E2
  have FA2 : ownAI Z h2 cb .byte 0 (fun _ => (0 : Int32)) := ownAI0 AV2
  refine ownGoW (T' := T2) (f' := (mkF m 11 #[rv sx, rv sb, iv (0 : Int32), iv (0 : Int32), .val .null, .unset] [(.ref ca), (.ref sx)])) (st2) ?_
  refine ownBaseW (k := h2.size) ⟨hS2.1, hS2.2.mono hk2⟩ ?_
  have hZ := hZ2
  have hown := hown2
  obtain ⟨T6, X6, e6, st6⟩ := getF X2 hx hZ hown (host := "") (Or.inl (ww 22 rfl)) Via.refl e2 FV2 (g := (mkF m 11 #[rv sx, rv sb, iv (0 : Int32), iv (0 : Int32), .val .null, .unset] [(.ref ca), (.ref sx)])) rfl rfl (hb hby own_d12_11)
  refine ownGoW (T' := T6) (f' := (mkF m 14 #[rv sx, rv sb, iv (0 : Int32), iv (0 : Int32), .val .null, .unset] [(.ref cb), (.ref sx)])) (st6) ?_
  obtain ⟨T7, h7, X7, e7, W7, st7⟩ := putF X6 hx hZ hown (host := "") (Or.inl (ww 22 rfl)) Via.refl e6 F4 F3 (Or.inr ⟨(ww 23 rfl), rfl, hnm⟩) (ww 10 rfl) (ty := (.array .byte)) (by decide) rfl rfl (g := (mkF m 14 #[rv sx, rv sb, iv (0 : Int32), iv (0 : Int32), .val .null, .unset] [(.ref cb), (.ref sx)])) rfl rfl (hb hby own_d12_14)
  have N7 := Fr.snoc X7 N0 G_sx
  have K7 : Keep h0 h7 [sx] := K2.wr W7 (Or.inl (List.mem_of_getElem? (i := 0) rfl))
  have F8 : Exa Z h7 sx "java/lang/String" := F3.wr W7
  have F9 : Fld Z h7 sx "java/lang/String" "value" "[B" (.ref cb) := F4.same W7
  have F10 : Fld Z h7 sx "java/lang/String" "coder" "B" (.int (0 : Int32)) := F5.other W7 (Or.inr (slot_ne (Or.inr (ww 25 rfl)) (Or.inr (ww 23 rfl)) (by decide) (t := .byte) (t' := (.array .byte)) (by decide) (by decide)))
  have F11 : Exa Z h7 ca "java/lang/String" := A2.wr W7
  have F12 : Fld Z h7 ca "java/lang/String" "coder" "B" (.int (0 : Int32)) := FC2.other W7 (Or.inl (Ne.symm ne2.1))
  have F13 : Fld Z h7 ca "java/lang/String" "value" "[B" (.ref cb) := FV2.other W7 (Or.inl (Ne.symm ne2.1))
  have F14 : ownAI Z h7 cb .byte 0 (fun _ => (0 : Int32)) := FA2.other W7 (Ne.symm ne2.2)
  refine ownGoW (T' := T7) (f' := (mkF m 17 #[rv sx, rv sb, iv (0 : Int32), iv (0 : Int32), .val .null, .unset] [])) (st7) ?_
  refine ow_aloadNW (q := 18) X7 hx (hb hby own_d12_17) rfl rfl rfl ?_
  refine ownGoW (T' := T7) (f' := (mkF m 20 #[rv sx, rv sb, iv (0 : Int32), iv (0 : Int32), .val .null, .unset] [(.ref ca), (.ref sx)])) (ldcAgain (s := s) (vm0 := T2.vm) X7 hx hZ hown (ww 68 rfl) LT2 (g := (mkF m 18 #[rv sx, rv sb, iv (0 : Int32), iv (0 : Int32), .val .null, .unset] [(.ref sx)])) rfl (hb hby own_d12_18)) ?_
  obtain ⟨T15, X15, e15, st15⟩ := getF X7 hx hZ hown (host := "") (Or.inl (ww 24 rfl)) Via.refl e7 F12 (g := (mkF m 20 #[rv sx, rv sb, iv (0 : Int32), iv (0 : Int32), .val .null, .unset] [(.ref ca), (.ref sx)])) rfl rfl (hb hby own_d12_20)
  refine ownGoW (T' := T15) (f' := (mkF m 23 #[rv sx, rv sb, iv (0 : Int32), iv (0 : Int32), .val .null, .unset] [(.int (0 : Int32)), (.ref sx)])) (st15) ?_
  obtain ⟨T16, h16, X16, e16, W16, st16⟩ := putFN X15 hx hZ hown (ww 24 rfl) Via.refl e15 F10 F8 (Or.inr ⟨(ww 25 rfl), rfl, hnm⟩) (ww 10 rfl) (ty := .byte) (v' := (.int (0 : Int32))) (by decide) rfl (by decide) (g := (mkF m 23 #[rv sx, rv sb, iv (0 : Int32), iv (0 : Int32), .val .null, .unset] [(.int (0 : Int32)), (.ref sx)])) rfl rfl (hb hby own_d12_23)
  have N16 := Fr.snoc X16 N7 G_sx
  have K16 : Keep h0 h16 [sx] := K7.wr W16 (Or.inl (List.mem_of_getElem? (i := 0) rfl))
  have F17 : Exa Z h16 sx "java/lang/String" := F8.wr W16
  have F18 : Fld Z h16 sx "java/lang/String" "value" "[B" (.ref cb) := F9.other W16 (Or.inr (slot_ne (Or.inr (ww 23 rfl)) (Or.inr (ww 25 rfl)) (by decide) (t := (.array .byte)) (t' := .byte) (by decide) (by decide)))
  have F19 : Fld Z h16 sx "java/lang/String" "coder" "B" (.int (0 : Int32)) := F10.same W16
  have F20 : Exa Z h16 ca "java/lang/String" := F11.wr W16
  have F21 : Fld Z h16 ca "java/lang/String" "coder" "B" (.int (0 : Int32)) := F12.other W16 (Or.inl (Ne.symm ne2.1))
  have F22 : Fld Z h16 ca "java/lang/String" "value" "[B" (.ref cb) := F13.other W16 (Or.inl (Ne.symm ne2.1))
  have F23 : ownAI Z h16 cb .byte 0 (fun _ => (0 : Int32)) := F14.other W16 (Ne.symm ne2.2)
  refine ownGoW (T' := T16) (f' := (mkF m 26 #[rv sx, rv sb, iv (0 : Int32), iv (0 : Int32), .val .null, .unset] [])) (st16) ?_
  refine ownRetVW X16 hx Bd.returns (hb hby own_d12_26) hlk (by decide) (by decide) ?_
  refine ⟨?_, (by rw [e16]; exact (Nat.le_trans (ownWrSz W7) (ownWrSz W16)))⟩
  rw [e16]
  exact ⟨cb, rfl, N16, K16, F19, F18, F23⟩
theorem own_d11_0 : decode jdk_42_method_3_code 0 = .ok (.aload_n 0, 1) := by decide +kernel
theorem own_d11_1 : decode jdk_42_method_3_code 1 = .ok (.aload_n 1, 1) := by decide +kernel
theorem own_d11_2 : decode jdk_42_method_3_code 2 = .ok (.iconst 0, 1) := by decide +kernel
theorem own_d11_3 : decode jdk_42_method_3_code 3 = .ok (.aload_n 1, 1) := by decide +kernel
theorem own_d11_4 : decode jdk_42_method_3_code 4 = .ok (.arraylength, 1) := by decide +kernel
theorem own_d11_5 : decode jdk_42_method_3_code 5 = .ok (.aconst_null, 1) := by decide +kernel
theorem own_d11_6 : decode jdk_42_method_3_code 6 = .ok (.invokespecial 27, 3) := by decide +kernel
theorem own_pd0 : parseMethodDescriptor "([CIILjava/lang/Void;)V" = some ⟨[(.array .char), .int, .int, (.object "java/lang/Void")], none⟩ := by decide +kernel
theorem own_d11_9 : decode jdk_42_method_3_code 9 = .ok (.return_, 1) := by decide +kernel
theorem own_ef11_str0 (m : MethodId) (sx : Addr) (sb : Addr) : entryFrame m #[(.ref sx), (.ref sb)] 2 = mkF m 0 #[rv sx, rv sb] [] := by first | (simp [entryFrame, mkF, argsToLocals, Value.category]; done) | rfl
def Q_str0 (Z : State) (sx : Addr) (sb : Addr) (gz : Nat → Int32) (h0 : Heap) (n0 : Nat) (v : Option Value) (h : Heap) (L : List Loc) : Prop := ∃ (t : Addr), v = none ∧ Fr n0 L ∧ Keep h0 h [sx] ∧ Fld Z h sx "java/lang/String" "coder" "B" (.int (0 : Int32)) ∧ Fld Z h sx "java/lang/String" "value" "[B" (.ref t) ∧ ownAI Z h t .byte 0 (fun _ => (0 : Int32))
set_option maxRecDepth 65536 in
set_option maxHeartbeats 40000000 in
theorem rm_str0 (l : Launch) (Z : State) (av0 : Array Value) (hw : ∀ d ∈ tables_1, d.before av0 Z = true) (ws : List Jvm.Cond) (sx : Addr) (sb : Addr) (gz : Nat → Int32) (h0 : Heap) (n0 : Nat) (Z0 : n0 ≤ h0.size) (HF0 : Exa Z h0 sx "java/lang/String") (HF1 : Fld Z h0 sx "java/lang/String" "value" "[B" .null) (HF2 : Fld Z h0 sx "java/lang/String" "coder" "B" (.int (0 : Int32))) (HF3 : ownAI Z h0 sb .char 0 gz) (G_sx : n0 ≤ sx) (hne : sb ≠ sx) :
    MetFree l (⟨"java/lang/String", "<init>", "([C)V"⟩ : MethodName) (head1 (Jvm.Cond.code (⟨"java/lang/String", "<init>", "([C)V"⟩ : MethodName) jdk_42_method_3_code 2 none :: ws) ({ frames := 2, cells := 2, slots := 4, locals := 29 } : Room)) (fun a U => a = #[(.ref sx), (.ref sb)] ∧ Z.Warmed39 U.vm ∧ U.heap = h0 ∧ CHv Z [("java/lang/String", 7)] U.vm h0 ∧ Safe Z [("java/lang/String", 7)] U.vm h0 sx) (fun _ _ _ _ _ => True) (fun _ U o U' => ∃ v L, o = .returned v ∧ (Q_str0 Z sx sb gz h0 n0) v U'.heap L ∧ ReturnedEndW U o U' L ({ frames := 2, cells := 2, slots := 4, locals := 29 } : Room).cells ({ frames := 2, cells := 2, slots := 4, locals := 29 } : Room).slots) := by
  refine MetFree.of_bodySF (plainFor_of_name own_pn_String) hisR ?_
  intro p e s m args below meth c s₁ Bd hml0 hP hK
  obtain ⟨rfl, hZ, hh, hCH, hSf⟩ := hP
  have hx := Bd.exec
  have hby := Bd.bytes
  have hml : c.maxLocals = 2 := hml0
  have hown : s.vm.findClass "java/lang/String" = some m.cls := findClass_of_methodNamed Bd.named
  have hnm := (name_of_methodNamed Bd.named Bd.method).1
  have hlk : meth.locks = false := BodyLoose.notSynchronized Bd
  have X0 : Stand p l e ({ frames := 2, cells := 2, slots := 4, locals := 29 } : Room) s m #[(.ref sx), (.ref sb)] below meth c s₁ [] 0 0 := Stand.of_body Bd
  have e0 : s₁.heap = h0 := by rw [← hh, Bd.state]; rfl
  have N0 := Fr.nil n0
  have K0 : Keep h0 h0 [sx] := Keep.refl _ _
  have ww : ∀ (k : Nat) {d : Jvm.Cond}, tables_1[k]? = some d → d.before av0 Z = true := fun k d h => hw d (List.mem_of_getElem? h)
  show ownEndsW p e below s (Q_str0 Z sx sb gz h0 n0) ({ frames := 2, cells := 2, slots := 4, locals := 29 } : Room).cells ({ frames := 2, cells := 2, slots := 4, locals := 29 } : Room).slots s₁ (entryFrame m #[(.ref sx), (.ref sb)] 2)
  refine ownCastW (own_ef11_str0 m sx sb) ?_
  refine ow_aloadNW (q := 1) X0 hx (hb hby own_d11_0) rfl rfl rfl ?_
  refine ow_aloadNW (q := 2) X0 hx (hb hby own_d11_1) rfl rfl rfl ?_
  refine ow_iconstW (q := 3) X0 hx (0 : Int32) (hb hby own_d11_2) rfl rfl ?_
  refine ow_aloadNW (q := 4) X0 hx (hb hby own_d11_3) rfl rfl rfl ?_
  refine ownGoW (T' := s₁) (f' := (mkF m 5 #[rv sx, rv sb] [(.int (0 : Int32)), (.int (0 : Int32)), (.ref sb), (.ref sx)])) (ownLenI HF3 X0 hx hZ e0 (z := (0 : Int32)) (by decide) (g := (mkF m 4 #[rv sx, rv sb] [(.ref sb), (.int (0 : Int32)), (.ref sb), (.ref sx)])) rfl rfl (hb hby own_d11_4)) ?_
  refine ow_aconstNullW (q := 6) X0 hx (hb hby own_d11_5) rfl ?_
  obtain ⟨_, _, ⟨T1, L1, k1, n1⟩, -, X1, hS1, gr1, ⟨Lc1, hQ1, l1, y1, z1⟩, st1⟩ := X0.specialBackS hx (y := (⟨"java/lang/String", "<init>", "([CIILjava/lang/Void;)V"⟩ : MethodName)) rfl hown (mvT hZ (ww 65 rfl)) (mvT hZ (ww 66 rfl)) (mvT hZ (ww 67 rfl)) (by decide) (backOfX (W := 0) (rm_emp4 l Z av0 hw [] sx sb h0 n0 (Nat.le_trans Z0 K0.1) HF0 HF1 HF2 G_sx) hZ (ww 67 rfl) (ww 2 rfl) (by decide) (by decide) (own_EW hw) hCH hSf HF0.lt) (g := (mkF m 6 #[rv sx, rv sb] [.null, (.int (0 : Int32)), (.int (0 : Int32)), (.ref sb), (.ref sx)])) rfl (by rw [hml]; rfl) (Steps.refl _) (a := sx) (argsL := [(.ref sb), (.int (0 : Int32)), (.int (0 : Int32)), .null]) (rest := []) (lenOf own_pd0 rfl) rfl (by show 2 * 0 + _ ≤ _; exact Nat.le_of_eq rfl) (hb hby own_d11_6) (fun _ _ => ⟨rfl, e0, (by decide : 0 + 2 ≤ _), (by decide : 0 + 4 ≤ _)⟩)
  dsimp only [Pt.U, Pt.locs, Pt.cells, Pt.slots] at X1 l1 y1 z1 st1 hQ1 hS1 gr1
  subst l1 y1 z1
  obtain ⟨t_1, rfl, N1q, Kq1, FP1_0, FP1_1, FP1_2⟩ := hQ1
  have N1 := Fr.app N0 N1q
  have K1 : Keep h0 T1.heap [sx] := K0.trans Kq1 (allS (Or.inl (List.mem_of_getElem? (i := 0) rfl)) all0)
  have F2 : Exa Z T1.heap sx "java/lang/String" := HF0.keep Kq1
  have F3 : ownAI Z T1.heap sb .char 0 gz := HF3.keep Kq1 (ninS hne nin0)
  refine ownRunW (T' := T1) (f' := (mkF m 9 #[rv sx, rv sb] [])) st1 ?_
  refine ownRebaseW hZ hown hS1 X1 ?_
  intro s X1 hZ hown
  refine ownRetVW X1 hx Bd.returns (hb hby own_d11_9) hlk (by decide) (by decide) ?_
  refine ⟨?_, Nat.le_refl _⟩
  exact ⟨t_1, rfl, N1, K1, FP1_0, FP1_1, FP1_2⟩
theorem own_pn_StringLatin1 : plainName "java/lang/StringLatin1" = true := by first | (simp [plainName, overriddenIn]; done) | decide +kernel
theorem own_d2_0 : decode jdk_43_method_3_code 0 = .ok (.iload_n 0, 1) := by decide +kernel
theorem own_d2_1 : decode jdk_43_method_3_code 1 = .ok (.sipush 255, 3) := by decide +kernel
theorem own_d2_4 : decode jdk_43_method_3_code 4 = .ok (.if_icmp .gt 7, 3) := by decide +kernel
theorem own_d2_7 : decode jdk_43_method_3_code 7 = .ok (.iconst 1, 1) := by decide +kernel
theorem own_d2_8 : decode jdk_43_method_3_code 8 = .ok (.goto 4, 3) := by decide +kernel
theorem own_d2_12 : decode jdk_43_method_3_code 12 = .ok (.ireturn, 1) := by decide +kernel
theorem own_ef2_canEncode (m : MethodId) (p0 : Int32) : entryFrame m #[(.int p0)] 1 = mkF m 0 #[iv p0] [] := by first | (simp [entryFrame, mkF, argsToLocals, Value.category]; done) | rfl
def Q_canEncode (Z : State) (p0 : Int32) (h0 : Heap) (n0 : Nat) (v : Option Value) (h : Heap) (L : List Loc) : Prop := v = some (.int (1 : Int32)) ∧ Fr n0 L ∧ h = h0
set_option maxRecDepth 65536 in
set_option maxHeartbeats 40000000 in
theorem rm_canEncode (l : Launch) (Z : State) (av0 : Array Value) (hw : ∀ d ∈ tables_1, d.before av0 Z = true) (ws : List Jvm.Cond) (p0 : Int32) (h0 : Heap) (n0 : Nat) (Z0 : n0 ≤ h0.size) (hhi : ¬ (255 : Int32) < p0) :
    MetFree l (⟨"java/lang/StringLatin1", "canEncode", "(C)Z"⟩ : MethodName) (head1 (Jvm.Cond.code (⟨"java/lang/StringLatin1", "canEncode", "(C)Z"⟩ : MethodName) jdk_43_method_3_code 1 (some .boolean) :: ws) ({ frames := 0, cells := 0, slots := 0, locals := 0 } : Room)) (fun a U => a = #[(.int p0)] ∧ Z.Warmed39 U.vm ∧ U.heap = h0) (fun _ _ _ _ _ => True) (fun _ U o U' => ∃ v L, o = .returned v ∧ (Q_canEncode Z p0 h0 n0) v U'.heap L ∧ FrameEnd U o U' L ({ frames := 0, cells := 0, slots := 0, locals := 0 } : Room).cells ({ frames := 0, cells := 0, slots := 0, locals := 0 } : Room).slots) := by
  refine MetFree.of_bodySF (plainFor_of_name own_pn_StringLatin1) hisR ?_
  intro p e s m args below meth c s₁ Bd hml0 hP hK
  obtain ⟨rfl, hZ, hh⟩ := hP
  have hx := Bd.exec
  have hby := Bd.bytes
  have hml : c.maxLocals = 1 := hml0
  have hown : s.vm.findClass "java/lang/StringLatin1" = some m.cls := findClass_of_methodNamed Bd.named
  have hnm := (name_of_methodNamed Bd.named Bd.method).1
  have hlk : meth.locks = false := BodyLoose.notSynchronized Bd
  have X0 : Stand p l e ({ frames := 0, cells := 0, slots := 0, locals := 0 } : Room) s m #[(.int p0)] below meth c s₁ [] 0 0 := Stand.of_body Bd
  have e0 : s₁.heap = h0 := by rw [← hh, Bd.state]; rfl
  have N0 := Fr.nil n0
  have K0 : Keep h0 h0 [] := Keep.refl _ _
  have ww : ∀ (k : Nat) {d : Jvm.Cond}, tables_1[k]? = some d → d.before av0 Z = true := fun k d h => hw d (List.mem_of_getElem? h)
  show ownEnds p e below s (Q_canEncode Z p0 h0 n0) ({ frames := 0, cells := 0, slots := 0, locals := 0 } : Room).cells ({ frames := 0, cells := 0, slots := 0, locals := 0 } : Room).slots s₁ (entryFrame m #[(.int p0)] 1)
  refine ownCast (own_ef2_canEncode m p0) ?_
  refine ow_iloadN (q := 1) X0 hx (hb hby own_d2_0) rfl rfl ?_
  refine ow_sipush (q := 4) X0 hx (255 : Int32) (hb hby own_d2_1) rfl rfl ?_
  refine ow_icmpNo (q := 7) X0 hx (hb hby own_d2_4) rfl (Jvm.Free.XT.ii_gt_f hhi) ?_
  refine ow_iconst (q := 8) X0 hx (1 : Int32) (hb hby own_d2_7) rfl rfl ?_
  refine ow_goto (q := 12) X0 hx (hb hby own_d2_8) (by decide) (by decide) ?_
  refine ownRetN X0 hx (r := (1 : Int32)) (Or.inl rfl) Bd.returns (hb hby own_d2_12) hlk (by decide) (by decide) (by decide) ?_
  rw [e0]
  exact ⟨rfl, N0, rfl⟩
theorem own_d3_0 : decode jdk_43_method_46_code 0 = .ok (.iconst 1, 1) := by decide +kernel
theorem own_d3_1 : decode jdk_43_method_46_code 1 = .ok (.newarray .byte, 2) := by decide +kernel
theorem own_d3_3 : decode jdk_43_method_46_code 3 = .ok (.dup, 1) := by decide +kernel
theorem own_d3_4 : decode jdk_43_method_46_code 4 = .ok (.iconst 0, 1) := by decide +kernel
theorem own_d3_5 : decode jdk_43_method_46_code 5 = .ok (.iload_n 0, 1) := by decide +kernel
theorem own_d3_6 : decode jdk_43_method_46_code 6 = .ok (.i2b, 1) := by decide +kernel
theorem own_d3_7 : decode jdk_43_method_46_code 7 = .ok (.bastore, 1) := by decide +kernel
theorem own_d3_8 : decode jdk_43_method_46_code 8 = .ok (.areturn, 1) := by decide +kernel
theorem own_ef3_toBytes (m : MethodId) (p0 : Int32) : entryFrame m #[(.int p0)] 1 = mkF m 0 #[iv p0] [] := by first | (simp [entryFrame, mkF, argsToLocals, Value.category]; done) | rfl
def Q_toBytes (Z : State) (p0 : Int32) (h0 : Heap) (n0 : Nat) (v : Option Value) (h : Heap) (L : List Loc) : Prop := ∃ (r : Addr), v = some (.ref r) ∧ Fr n0 L ∧ Keep h0 h [] ∧ h0.size ≤ r
set_option maxRecDepth 65536 in
set_option maxHeartbeats 40000000 in
theorem rm_toBytes (l : Launch) (Z : State) (av0 : Array Value) (hw : ∀ d ∈ tables_1, d.before av0 Z = true) (ws : List Jvm.Cond) (p0 : Int32) (h0 : Heap) (n0 : Nat) (Z0 : n0 ≤ h0.size) :
    MetFree l (⟨"java/lang/StringLatin1", "toBytes", "(C)[B"⟩ : MethodName) (head1 (Jvm.Cond.code (⟨"java/lang/StringLatin1", "toBytes", "(C)[B"⟩ : MethodName) jdk_43_method_46_code 1 (some (.array .byte)) :: ws) ({ frames := 0, cells := 1, slots := 1, locals := 0 } : Room)) (fun a U => a = #[(.int p0)] ∧ Z.Warmed39 U.vm ∧ U.heap = h0) (fun _ _ _ _ _ => True) (fun _ U o U' => ∃ v L, o = .returned v ∧ (Q_toBytes Z p0 h0 n0) v U'.heap L ∧ FrameEnd U o U' L ({ frames := 0, cells := 1, slots := 1, locals := 0 } : Room).cells ({ frames := 0, cells := 1, slots := 1, locals := 0 } : Room).slots) := by
  refine MetFree.of_bodySF (plainFor_of_name own_pn_StringLatin1) hisR ?_
  intro p e s m args below meth c s₁ Bd hml0 hP hK
  obtain ⟨rfl, hZ, hh⟩ := hP
  have hx := Bd.exec
  have hby := Bd.bytes
  have hml : c.maxLocals = 1 := hml0
  have hown : s.vm.findClass "java/lang/StringLatin1" = some m.cls := findClass_of_methodNamed Bd.named
  have hnm := (name_of_methodNamed Bd.named Bd.method).1
  have hlk : meth.locks = false := BodyLoose.notSynchronized Bd
  have X0 : Stand p l e ({ frames := 0, cells := 1, slots := 1, locals := 0 } : Room) s m #[(.int p0)] below meth c s₁ [] 0 0 := Stand.of_body Bd
  have e0 : s₁.heap = h0 := by rw [← hh, Bd.state]; rfl
  have N0 := Fr.nil n0
  have K0 : Keep h0 h0 [] := Keep.refl _ _
  have ww : ∀ (k : Nat) {d : Jvm.Cond}, tables_1[k]? = some d → d.before av0 Z = true := fun k d h => hw d (List.mem_of_getElem? h)
  show ownEnds p e below s (Q_toBytes Z p0 h0 n0) ({ frames := 0, cells := 1, slots := 1, locals := 0 } : Room).cells ({ frames := 0, cells := 1, slots := 1, locals := 0 } : Room).slots s₁ (entryFrame m #[(.int p0)] 1)
  refine ownCast (own_ef3_toBytes m p0) ?_
  refine ow_iconst (q := 1) X0 hx (1 : Int32) (hb hby own_d3_0) rfl rfl ?_
  obtain ⟨T1, h1, k1, X1, e1, E1, A1, st1⟩ := newP X0 hx hZ (ww 14 rfl) e0 (g := (mkF m 1 #[iv p0] [(.int (1 : Int32))])) rfl (hb hby own_d3_1) rfl (by decide) (cap := 1) (by decide) (by decide) (by decide) (by decide)
  obtain ⟨b1, g1⟩ : ∃ z, z = h0.size := ⟨_, rfl⟩
  rw [← g1] at A1 st1
  have sz_b1 : h0.size ≤ b1 := Nat.le_trans K0.1 (Nat.le_of_eq g1.symm)
  have G_b1 : n0 ≤ b1 := Nat.le_trans Z0 sz_b1
  have K1 : Keep h0 h1 [] := K0.ext E1
  have F2 : ownAI Z h1 b1 .byte 1 (fun _ => (0 : Int32)) := ownAI.new A1 (by decide) rfl (by decide)
  refine ownGo (T' := T1) (f' := (mkF m 3 #[iv p0] [(.ref b1)])) (st1) ?_
  refine ow_dup (q := 4) X1 hx (hb hby own_d3_3) rfl rfl ?_
  refine ow_iconst (q := 5) X1 hx (0 : Int32) (hb hby own_d3_4) rfl rfl ?_
  refine ow_iloadN (q := 6) X1 hx (hb hby own_d3_5) rfl rfl ?_
  refine ow_i2b (q := 7) X1 hx _ (hb hby own_d3_6) rfl rfl ?_
  generalize hv_v3 : (p0.toInt8.toInt32) = v3
  obtain ⟨T4, h4, X4, e4, W4, F4s, st4⟩ := ownBastore F2 X1 hx hZ e1 (j := (0 : Int32)) (by unfold ownIn; decide) (g := (mkF m 7 #[iv p0] [(.int v3), (.int (0 : Int32)), (.ref b1), (.ref b1)])) rfl rfl (hb hby own_d3_7)
  rw [own_narb hv_v3] at F4s
  have F4r : ownAI Z h4 b1 .byte 1 (ownUpd (fun _ => (0 : Int32)) 0 v3) := F4s
  have N4 := Fr.snoc X4 N0 G_b1
  have K4 : Keep h0 h4 [] := K1.wr W4 (Or.inr sz_b1)
  refine ownGo (T' := T4) (f' := (mkF m 8 #[iv p0] [(.ref b1)])) (st4) ?_
  refine ownRetR X4 hx rfl rfl rfl Bd.returns (hb hby own_d3_8) hlk (by decide) (by decide) ?_
  rw [e4]
  exact ⟨b1, rfl, N4, K4, sz_b1⟩
theorem own_d4_0 : decode jdk_42_method_151_code 0 = .ok (.aload_n 0, 1) := by decide +kernel
theorem own_d4_1 : decode jdk_42_method_151_code 1 = .ok (.invokespecial 1, 3) := by decide +kernel
theorem own_d4_4 : decode jdk_42_method_151_code 4 = .ok (.aload_n 0, 1) := by decide +kernel
theorem own_d4_5 : decode jdk_42_method_151_code 5 = .ok (.aload_n 1, 1) := by decide +kernel
theorem own_d4_6 : decode jdk_42_method_151_code 6 = .ok (.putfield 9, 3) := by decide +kernel
theorem own_d4_9 : decode jdk_42_method_151_code 9 = .ok (.aload_n 0, 1) := by decide +kernel
theorem own_d4_10 : decode jdk_42_method_151_code 10 = .ok (.iload_n 2, 1) := by decide +kernel
theorem own_d4_11 : decode jdk_42_method_151_code 11 = .ok (.putfield 15, 3) := by decide +kernel
theorem own_d4_14 : decode jdk_42_method_151_code 14 = .ok (.return_, 1) := by decide +kernel
theorem own_ef4_strBB (m : MethodId) (sx : Addr) (bb : Addr) : entryFrame m #[(.ref sx), (.ref bb), (.int (0 : Int32))] 3 = mkF m 0 #[rv sx, rv bb, iv (0 : Int32)] [] := by first | (simp [entryFrame, mkF, argsToLocals, Value.category]; done) | rfl
def Q_strBB (Z : State) (sx : Addr) (bb : Addr) (h0 : Heap) (n0 : Nat) (v : Option Value) (h : Heap) (L : List Loc) : Prop := v = none ∧ Fr n0 L ∧ Keep h0 h [sx]
set_option maxRecDepth 65536 in
set_option maxHeartbeats 40000000 in
theorem rm_strBB (l : Launch) (Z : State) (av0 : Array Value) (hw : ∀ d ∈ tables_1, d.before av0 Z = true) (ws : List Jvm.Cond) (sx : Addr) (bb : Addr) (h0 : Heap) (n0 : Nat) (Z0 : n0 ≤ h0.size) (HF0 : Exa Z h0 sx "java/lang/String") (HF1 : Fld Z h0 sx "java/lang/String" "value" "[B" .null) (HF2 : Fld Z h0 sx "java/lang/String" "coder" "B" (.int (0 : Int32))) (G_sx : n0 ≤ sx) :
    MetFree l (⟨"java/lang/String", "<init>", "([BB)V"⟩ : MethodName) (head1 (Jvm.Cond.code (⟨"java/lang/String", "<init>", "([BB)V"⟩ : MethodName) jdk_42_method_151_code 3 none :: ws) ({ frames := 1, cells := 0, slots := 0, locals := 12 } : Room)) (fun a U => a = #[(.ref sx), (.ref bb), (.int (0 : Int32))] ∧ Z.Warmed39 U.vm ∧ U.heap = h0) (fun _ _ _ _ _ => True) (fun _ U o U' => ∃ v L, o = .returned v ∧ (Q_strBB Z sx bb h0 n0) v U'.heap L ∧ FrameEnd U o U' L ({ frames := 1, cells := 0, slots := 0, locals := 12 } : Room).cells ({ frames := 1, cells := 0, slots := 0, locals := 12 } : Room).slots) := by
  refine MetFree.of_bodySF (plainFor_of_name own_pn_String) hisR ?_
  intro p e s m args below meth c s₁ Bd hml0 hP hK
  obtain ⟨rfl, hZ, hh⟩ := hP
  have hx := Bd.exec
  have hby := Bd.bytes
  have hml : c.maxLocals = 3 := hml0
  have hown : s.vm.findClass "java/lang/String" = some m.cls := findClass_of_methodNamed Bd.named
  have hnm := (name_of_methodNamed Bd.named Bd.method).1
  have hlk : meth.locks = false := BodyLoose.notSynchronized Bd
  have X0 : Stand p l e ({ frames := 1, cells := 0, slots := 0, locals := 12 } : Room) s m #[(.ref sx), (.ref bb), (.int (0 : Int32))] below meth c s₁ [] 0 0 := Stand.of_body Bd
  have e0 : s₁.heap = h0 := by rw [← hh, Bd.state]; rfl
  have N0 := Fr.nil n0
  have K0 : Keep h0 h0 [sx] := Keep.refl _ _
  have ww : ∀ (k : Nat) {d : Jvm.Cond}, tables_1[k]? = some d → d.before av0 Z = true := fun k d h => hw d (List.mem_of_getElem? h)
  show ownEnds p e below s (Q_strBB Z sx bb h0 n0) ({ frames := 1, cells := 0, slots := 0, locals := 12 } : Room).cells ({ frames := 1, cells := 0, slots := 0, locals := 12 } : Room).slots s₁ (entryFrame m #[(.ref sx), (.ref bb), (.int (0 : Int32))] 3)
  refine ownCast (own_ef4_strBB m sx bb) ?_
  refine ow_aloadN (q := 1) X0 hx (hb hby own_d4_0) rfl rfl rfl ?_
  obtain ⟨T1, X1, e1, st1⟩ := initO X0 hx hZ hown (ww 19 rfl) (ww 20 rfl) (ww 21 rfl) e0 (g := (mkF m 1 #[rv sx, rv bb, iv (0 : Int32)] [(.ref sx)])) rfl (by rw [hml]; rfl) rfl (hb hby own_d4_1) (by decide) (W := 0) (by show 2 * 0 + _ ≤ _; exact Nat.le_of_eq rfl) (by decide)
  refine ownGo (T' := T1) (f' := (mkF m 4 #[rv sx, rv bb, iv (0 : Int32)] [])) (st1) ?_
  refine ow_aloadN (q := 5) X1 hx (hb hby own_d4_4) rfl rfl rfl ?_
  refine ow_aloadN (q := 6) X1 hx (hb hby own_d4_5) rfl rfl rfl ?_
  obtain ⟨T2, h2, X2, e2, W2, st2⟩ := putF X1 hx hZ hown (host := "") (Or.inl (ww 22 rfl)) Via.refl e1 HF1 HF0 (Or.inr ⟨(ww 23 rfl), rfl, hnm⟩) (ww 10 rfl) (ty := (.array .byte)) (by decide) rfl rfl (g := (mkF m 6 #[rv sx, rv bb, iv (0 : Int32)] [(.ref bb), (.ref sx)])) rfl rfl (hb hby own_d4_6)
  have N2 := Fr.snoc X2 N0 G_sx
  have K2 : Keep h0 h2 [sx] := K0.wr W2 (Or.inl (List.mem_of_getElem? (i := 0) rfl))
  have F3 : Exa Z h2 sx "java/lang/String" := HF0.wr W2
  have F4 : Fld Z h2 sx "java/lang/String" "value" "[B" (.ref bb) := HF1.same W2
  have F5 : Fld Z h2 sx "java/lang/String" "coder" "B" (.int (0 : Int32)) := HF2.other W2 (Or.inr (slot_ne (Or.inr (ww 25 rfl)) (Or.inr (ww 23 rfl)) (by decide) (t := .byte) (t' := (.array .byte)) (by decide) (by decide)))
  refine ownGo (T' := T2) (f' := (mkF m 9 #[rv sx, rv bb, iv (0 : Int32)] [])) (st2) ?_
  refine ow_aloadN (q := 10) X2 hx (hb hby own_d4_9) rfl rfl rfl ?_
  refine ow_iloadN (q := 11) X2 hx (hb hby own_d4_10) rfl rfl ?_
  obtain ⟨T6, h6, X6, e6, W6, st6⟩ := putFN X2 hx hZ hown (ww 24 rfl) Via.refl e2 F5 F3 (Or.inr ⟨(ww 25 rfl), rfl, hnm⟩) (ww 10 rfl) (ty := .byte) (v' := (.int (0 : Int32))) (by decide) rfl (by decide) (g := (mkF m 11 #[rv sx, rv bb, iv (0 : Int32)] [(.int (0 : Int32)), (.ref sx)])) rfl rfl (hb hby own_d4_11)
  have N6 := Fr.snoc X6 N2 G_sx
  have K6 : Keep h0 h6 [sx] := K2.wr W6 (Or.inl (List.mem_of_getElem? (i := 0) rfl))
  have F7 : Exa Z h6 sx "java/lang/String" := F3.wr W6
  have F8 : Fld Z h6 sx "java/lang/String" "value" "[B" (.ref bb) := F4.other W6 (Or.inr (slot_ne (Or.inr (ww 23 rfl)) (Or.inr (ww 25 rfl)) (by decide) (t := (.array .byte)) (t' := .byte) (by decide) (by decide)))
  have F9 : Fld Z h6 sx "java/lang/String" "coder" "B" (.int (0 : Int32)) := F5.same W6
  refine ownGo (T' := T6) (f' := (mkF m 14 #[rv sx, rv bb, iv (0 : Int32)] [])) (st6) ?_
  refine ownRetV X6 hx Bd.returns (hb hby own_d4_14) hlk (by decide) (by decide) ?_
  rw [e6]
  exact ⟨rfl, N6, K6⟩
theorem own_d1_0 : decode jdk_42_method_139_code 0 = .ok (.getstatic 38, 3) := by decide +kernel
theorem own_d1_3 : decode jdk_42_method_139_code 3 = .ok (.ifCond .eq 23, 3) := by decide +kernel
theorem own_d1_6 : decode jdk_42_method_139_code 6 = .ok (.iload_n 0, 1) := by decide +kernel
theorem own_d1_7 : decode jdk_42_method_139_code 7 = .ok (.invokestatic 1015, 3) := by decide +kernel
theorem own_pd1 : parseMethodDescriptor "(C)Z" = some ⟨[.char], some .boolean⟩ := by decide +kernel
theorem own_d1_10 : decode jdk_42_method_139_code 10 = .ok (.ifCond .eq 16, 3) := by decide +kernel
theorem own_d1_13 : decode jdk_42_method_139_code 13 = .ok (.new 10, 3) := by decide +kernel
theorem own_d1_16 : decode jdk_42_method_139_code 16 = .ok (.dup, 1) := by decide +kernel
theorem own_d1_17 : decode jdk_42_method_139_code 17 = .ok (.iload_n 0, 1) := by decide +kernel
theorem own_d1_18 : decode jdk_42_method_139_code 18 = .ok (.invokestatic 1018, 3) := by decide +kernel
theorem own_pd2 : parseMethodDescriptor "(C)[B" = some ⟨[.char], some (.array .byte)⟩ := by decide +kernel
theorem own_d1_21 : decode jdk_42_method_139_code 21 = .ok (.iconst 0, 1) := by decide +kernel
theorem own_d1_22 : decode jdk_42_method_139_code 22 = .ok (.invokespecial 209, 3) := by decide +kernel
theorem own_pd3 : parseMethodDescriptor "([BB)V" = some ⟨[(.array .byte), .byte], none⟩ := by decide +kernel
theorem own_d1_25 : decode jdk_42_method_139_code 25 = .ok (.areturn, 1) := by decide +kernel
theorem own_ef1_valueOf (m : MethodId) (p0 : Int32) : entryFrame m #[(.int p0)] 1 = mkF m 0 #[iv p0] [] := by first | (simp [entryFrame, mkF, argsToLocals, Value.category]; done) | rfl
def Q_valueOf (Z : State) (p0 : Int32) (zc : Int32) (h0 : Heap) (n0 : Nat) (v : Option Value) (h : Heap) (L : List Loc) : Prop := ∃ (r : Addr), v = some (.ref r) ∧ Fr n0 L ∧ Keep h0 h [] ∧ h0.size ≤ r ∧ Exa Z h r "java/lang/String"
set_option maxRecDepth 65536 in
set_option maxHeartbeats 40000000 in
theorem rm_valueOf (l : Launch) (Z : State) (av0 : Array Value) (hw : ∀ d ∈ tables_1, d.before av0 Z = true) (ws : List Jvm.Cond) (p0 : Int32) (zc : Int32) (h0 : Heap) (n0 : Nat) (Z0 : n0 ≤ h0.size) (HF0 : Sta Z h0 "java/lang/String" "COMPACT_STRINGS" "Z" (.int zc)) (hz : ¬ zc = (0 : Int32)) (hhi : ¬ (255 : Int32) < p0) :
    MetFree l (⟨"java/lang/String", "valueOf", "(C)Ljava/lang/String;"⟩ : MethodName) (head1 (Jvm.Cond.code (⟨"java/lang/String", "valueOf", "(C)Ljava/lang/String;"⟩ : MethodName) jdk_42_method_139_code 1 (some (.object "java/lang/String")) :: ws) ({ frames := 2, cells := 2, slots := 5, locals := 27 } : Room)) (fun a U => a = #[(.int p0)] ∧ Z.Warmed39 U.vm ∧ U.heap = h0) (fun _ _ _ _ _ => True) (fun _ U o U' => ∃ v L, o = .returned v ∧ (Q_valueOf Z p0 zc h0 n0) v U'.heap L ∧ FrameEnd U o U' L ({ frames := 2, cells := 2, slots := 5, locals := 27 } : Room).cells ({ frames := 2, cells := 2, slots := 5, locals := 27 } : Room).slots) := by
  refine MetFree.of_bodySF (plainFor_of_name own_pn_String) hisR ?_
  intro p e s m args below meth c s₁ Bd hml0 hP hK
  obtain ⟨rfl, hZ, hh⟩ := hP
  have hx := Bd.exec
  have hby := Bd.bytes
  have hml : c.maxLocals = 1 := hml0
  have hown : s.vm.findClass "java/lang/String" = some m.cls := findClass_of_methodNamed Bd.named
  have hnm := (name_of_methodNamed Bd.named Bd.method).1
  have hlk : meth.locks = false := BodyLoose.notSynchronized Bd
  have X0 : Stand p l e ({ frames := 2, cells := 2, slots := 5, locals := 27 } : Room) s m #[(.int p0)] below meth c s₁ [] 0 0 := Stand.of_body Bd
  have e0 : s₁.heap = h0 := by rw [← hh, Bd.state]; rfl
  have N0 := Fr.nil n0
  have K0 : Keep h0 h0 [] := Keep.refl _ _
  have ww : ∀ (k : Nat) {d : Jvm.Cond}, tables_1[k]? = some d → d.before av0 Z = true := fun k d h => hw d (List.mem_of_getElem? h)
  show ownEnds p e below s (Q_valueOf Z p0 zc h0 n0) ({ frames := 2, cells := 2, slots := 5, locals := 27 } : Room).cells ({ frames := 2, cells := 2, slots := 5, locals := 27 } : Room).slots s₁ (entryFrame m #[(.int p0)] 1)
  refine ownCast (own_ef1_valueOf m p0) ?_
  obtain ⟨T1, X1, e1, st1⟩ := getS2 X0 hx hZ hown (host := "") (Or.inl (ww 4 rfl)) Via.refl e0 HF0 (g := (mkF m 0 #[iv p0] [])) rfl (hb hby own_d1_0)
  refine ownGo (T' := T1) (f' := (mkF m 3 #[iv p0] [(.int zc)])) (st1) ?_
  refine ow_ifNo (q := 6) X1 hx (hb hby own_d1_3) rfl (Jvm.Free.XT.i0_eq_f hz) ?_
  refine ow_iloadN (q := 7) X1 hx (hb hby own_d1_6) rfl rfl ?_
  obtain ⟨_, _, ⟨T2, L2, k2, n2⟩, -, X2, ⟨Lc2, hQ2, l2, y2, z2⟩, st2⟩ := Jvm.LawKit.callS X1 hx (y := (⟨"java/lang/StringLatin1", "canEncode", "(C)Z"⟩ : MethodName)) hown (mvT hZ (ww 5 rfl)) (mvT hZ (ww 6 rfl)) (mvT hZ (ww 7 rfl)) (mvT hZ (ww 8 rfl)) (by decide) (backOf (W := 0) (rm_canEncode l Z av0 hw [] p0 h0 n0 (Nat.le_trans Z0 K0.1) hhi) hZ (ww 8 rfl) (ww 7 rfl) (by decide) (by decide)) (g := (mkF m 7 #[iv p0] [(.int p0)])) rfl (by rw [hml]; rfl) (argsL := [(.int p0)]) (rest := []) (lenOf own_pd1 rfl) rfl (by show 2 * 0 + _ ≤ _; exact Nat.le_of_eq rfl) (hb hby own_d1_7) (fun _ _ => ⟨rfl, e1, (by decide : 0 + 0 ≤ _), (by decide : 0 + 0 ≤ _)⟩)
  dsimp only [Pt.U, Pt.locs, Pt.cells, Pt.slots] at X2 l2 y2 z2 st2 hQ2
  subst l2 y2 z2
  obtain ⟨rfl, N2q, e2⟩ := hQ2
  have N2 := Fr.app N0 N2q
  refine ownGo (T' := T2) (f' := (mkF m 10 #[iv p0] [(.int (1 : Int32))])) (st2) ?_
  refine ow_ifNo (q := 13) X2 hx (hb hby own_d1_10) rfl (Jvm.Free.XT.i0_eq_f (by decide)) ?_
  obtain ⟨T3, h3, X3, e3, E3, A3, D3, -, st3⟩ := newO X2 hx hZ hown (ww 9 rfl) (ww 10 rfl) (ww 2 rfl) e2 (g := (mkF m 13 #[iv p0] [])) rfl (hb hby own_d1_13) (by decide) (by decide)
  obtain ⟨b3, g3⟩ : ∃ z, z = h0.size := ⟨_, rfl⟩
  rw [← g3] at A3 D3 st3
  have sz_b3 : h0.size ≤ b3 := Nat.le_trans K0.1 (Nat.le_of_eq g3.symm)
  have G_b3 : n0 ≤ b3 := Nat.le_trans Z0 sz_b3
  have K3 : Keep h0 h3 [] := K0.ext E3
  have F4 : Sta Z h3 "java/lang/String" "COMPACT_STRINGS" "Z" (.int zc) := HF0.ext E3
  have F5 : Fld Z h3 b3 "java/lang/String" "value" "[B" .null := D3 (Or.inr (ww 23 rfl)) (ty := (.array .byte)) (by decide)
  have F6 : Fld Z h3 b3 "java/lang/String" "coder" "B" (.int (0 : Int32)) := D3 (Or.inr (ww 25 rfl)) (ty := .byte) (by decide)
  refine ownGo (T' := T3) (f' := (mkF m 16 #[iv p0] [(.ref b3)])) (st3) ?_
  refine ow_dup (q := 17) X3 hx (hb hby own_d1_16) rfl rfl ?_
  refine ow_iloadN (q := 18) X3 hx (hb hby own_d1_17) rfl rfl ?_
  obtain ⟨_, _, ⟨T7, L7, k7, n7⟩, -, X7, ⟨Lc7, hQ7, l7, y7, z7⟩, st7⟩ := Jvm.LawKit.callS X3 hx (y := (⟨"java/lang/StringLatin1", "toBytes", "(C)[B"⟩ : MethodName)) hown (mvT hZ (ww 11 rfl)) (mvT hZ (ww 12 rfl)) (mvT hZ (ww 7 rfl)) (mvT hZ (ww 13 rfl)) (by decide) (backOf (W := 2) (rm_toBytes l Z av0 hw [] p0 h3 n0 (Nat.le_trans Z0 K3.1) ) hZ (ww 13 rfl) (ww 7 rfl) (by decide) (by decide)) (g := (mkF m 18 #[iv p0] [(.int p0), (.ref b3), (.ref b3)])) rfl (by rw [hml]; rfl) (argsL := [(.int p0)]) (rest := [(.ref b3), (.ref b3)]) (lenOf own_pd2 rfl) rfl (by show 2 * 0 + _ ≤ _; exact Nat.le_of_eq rfl) (hb hby own_d1_18) (fun _ _ => ⟨rfl, e3, (by decide : 1 + 1 ≤ _), (by decide : 4 + 1 ≤ _)⟩)
  dsimp only [Pt.U, Pt.locs, Pt.cells, Pt.slots] at X7 l7 y7 z7 st7 hQ7
  subst l7 y7 z7
  obtain ⟨b7, rfl, N7q, Kq7, sq7_b7⟩ := hQ7
  have N7 := Fr.app N2 N7q
  have K7 : Keep h0 T7.heap [] := K3.trans Kq7 all0
  have ne_b3_b7 : b3 ≠ b7 := Nat.ne_of_lt (Nat.lt_of_lt_of_le A3.lt sq7_b7)
  have sz_b7 : h0.size ≤ b7 := Nat.le_trans K3.1 sq7_b7
  have G_b7 : n0 ≤ b7 := Nat.le_trans Z0 sz_b7
  have F8 : Sta Z T7.heap "java/lang/String" "COMPACT_STRINGS" "Z" (.int zc) := ownStaKeep F4 Kq7 all0
  have F9 : Exa Z T7.heap b3 "java/lang/String" := A3.keep Kq7
  have F10 : Fld Z T7.heap b3 "java/lang/String" "value" "[B" .null := F5.keep Kq7 nin0
  have F11 : Fld Z T7.heap b3 "java/lang/String" "coder" "B" (.int (0 : Int32)) := F6.keep Kq7 nin0
  refine ownGo (T' := T7) (f' := (mkF m 21 #[iv p0] [(.ref b7), (.ref b3), (.ref b3)])) (st7) ?_
  refine ow_iconst (q := 22) X7 hx (0 : Int32) (hb hby own_d1_21) rfl rfl ?_
  obtain ⟨_, _, ⟨T12, L12, k12, n12⟩, -, X12, ⟨Lc12, hQ12, l12, y12, z12⟩, st12⟩ := X7.specialBack hx (y := (⟨"java/lang/String", "<init>", "([BB)V"⟩ : MethodName)) rfl hown (mvT hZ (ww 15 rfl)) (mvT hZ (ww 16 rfl)) (mvT hZ (ww 18 rfl)) (by decide) (backOf (W := 1) (rm_strBB l Z av0 hw [] b3 b7 T7.heap n0 (Nat.le_trans Z0 K7.1) F9 F10 F11 G_b3) hZ (ww 18 rfl) (ww 2 rfl) (by decide) (by decide)) (g := (mkF m 22 #[iv p0] [(.int (0 : Int32)), (.ref b7), (.ref b3), (.ref b3)])) rfl (by rw [hml]; rfl) (Steps.refl _) (a := b3) (argsL := [(.ref b7), (.int (0 : Int32))]) (rest := [(.ref b3)]) (lenOf own_pd3 rfl) rfl (by show 2 * 0 + _ ≤ _; exact Nat.le_of_eq rfl) (hb hby own_d1_22) (fun _ _ => ⟨rfl, rfl, (by decide : 2 + 0 ≤ _), (by decide : 5 + 0 ≤ _)⟩)
  dsimp only [Pt.U, Pt.locs, Pt.cells, Pt.slots] at X12 l12 y12 z12 st12 hQ12
  subst l12 y12 z12
  obtain ⟨rfl, N12q, Kq12⟩ := hQ12
  have N12 := Fr.app N7 N12q
  have K12 : Keep h0 T12.heap [] := K7.trans Kq12 (allS (Or.inr sz_b3) all0)
  have F13 : Sta Z T12.heap "java/lang/String" "COMPACT_STRINGS" "Z" (.int zc) := ownStaKeep F8 Kq12 (allS (ownNstE F9) all0)
  have F14 : Exa Z T12.heap b3 "java/lang/String" := F9.keep Kq12
  refine ownRun (T' := T12) (f' := (mkF m 25 #[iv p0] [(.ref b3)])) st12 ?_
  refine ownRetR X12 hx rfl rfl rfl Bd.returns (hb hby own_d1_25) hlk (by decide) (by decide) ?_
  exact ⟨b3, rfl, N12, K12, sz_b3, F14⟩
theorem own_pn_Record : plainName "java/lang/Record" = true := by first | (simp [plainName, overriddenIn]; done) | decide +kernel
theorem own_d7_0 : decode jdk_30_method_1_code 0 = .ok (.aload_n 0, 1) := by decide +kernel
theorem own_d7_1 : decode jdk_30_method_1_code 1 = .ok (.invokespecial 1, 3) := by decide +kernel
theorem own_d7_4 : decode jdk_30_method_1_code 4 = .ok (.return_, 1) := by decide +kernel
theorem own_ef7_rec (m : MethodId) (ro : Addr) : entryFrame m #[(.ref ro)] 1 = mkF m 0 #[rv ro] [] := by first | (simp [entryFrame, mkF, argsToLocals, Value.category]; done) | rfl
def Q_rec (Z : State) (ro : Addr) (h0 : Heap) (n0 : Nat) (v : Option Value) (h : Heap) (L : List Loc) : Prop := v = none ∧ Fr n0 L ∧ h = h0
set_option maxRecDepth 65536 in
set_option maxHeartbeats 40000000 in
theorem rm_rec (l : Launch) (Z : State) (av0 : Array Value) (hw : ∀ d ∈ tables_1, d.before av0 Z = true) (ws : List Jvm.Cond) (ro : Addr) (h0 : Heap) (n0 : Nat) (Z0 : n0 ≤ h0.size) :
    MetFree l (⟨"java/lang/Record", "<init>", "()V"⟩ : MethodName) (head1 (Jvm.Cond.code (⟨"java/lang/Record", "<init>", "()V"⟩ : MethodName) jdk_30_method_1_code 1 none :: ws) ({ frames := 1, cells := 0, slots := 0, locals := 12 } : Room)) (fun a U => a = #[(.ref ro)] ∧ Z.Warmed39 U.vm ∧ U.heap = h0) (fun _ _ _ _ _ => True) (fun _ U o U' => ∃ v L, o = .returned v ∧ (Q_rec Z ro h0 n0) v U'.heap L ∧ FrameEnd U o U' L ({ frames := 1, cells := 0, slots := 0, locals := 12 } : Room).cells ({ frames := 1, cells := 0, slots := 0, locals := 12 } : Room).slots) := by
  refine MetFree.of_bodySF (plainFor_of_name own_pn_Record) hisR ?_
  intro p e s m args below meth c s₁ Bd hml0 hP hK
  obtain ⟨rfl, hZ, hh⟩ := hP
  have hx := Bd.exec
  have hby := Bd.bytes
  have hml : c.maxLocals = 1 := hml0
  have hown : s.vm.findClass "java/lang/Record" = some m.cls := findClass_of_methodNamed Bd.named
  have hnm := (name_of_methodNamed Bd.named Bd.method).1
  have hlk : meth.locks = false := BodyLoose.notSynchronized Bd
  have X0 : Stand p l e ({ frames := 1, cells := 0, slots := 0, locals := 12 } : Room) s m #[(.ref ro)] below meth c s₁ [] 0 0 := Stand.of_body Bd
  have e0 : s₁.heap = h0 := by rw [← hh, Bd.state]; rfl
  have N0 := Fr.nil n0
  have K0 : Keep h0 h0 [] := Keep.refl _ _
  have ww : ∀ (k : Nat) {d : Jvm.Cond}, tables_1[k]? = some d → d.before av0 Z = true := fun k d h => hw d (List.mem_of_getElem? h)
  show ownEnds p e below s (Q_rec Z ro h0 n0) ({ frames := 1, cells := 0, slots := 0, locals := 12 } : Room).cells ({ frames := 1, cells := 0, slots := 0, locals := 12 } : Room).slots s₁ (entryFrame m #[(.ref ro)] 1)
  refine ownCast (own_ef7_rec m ro) ?_
  refine ow_aloadN (q := 1) X0 hx (hb hby own_d7_0) rfl rfl rfl ?_
  obtain ⟨T1, X1, e1, st1⟩ := initO X0 hx hZ hown (ww 37 rfl) (ww 20 rfl) (ww 21 rfl) e0 (g := (mkF m 1 #[rv ro] [(.ref ro)])) rfl (by rw [hml]; rfl) rfl (hb hby own_d7_1) (by decide) (W := 0) (by show 2 * 0 + _ ≤ _; exact Nat.le_of_eq rfl) (by decide)
  refine ownGo (T' := T1) (f' := (mkF m 4 #[rv ro] [])) (st1) ?_
  refine ownRetV X1 hx Bd.returns (hb hby own_d7_4) hlk (by decide) (by decide) ?_
  rw [e1]
  exact ⟨rfl, N0, rfl⟩
theorem own_pn_TestOutcome : plainName "com/example/shapewright/shapewright/testsuite/TestOutcome" = true := by first | (simp [plainName, overriddenIn]; done) | decide +kernel
theorem own_d6_0 : decode prog_45_method_1_code 0 = .ok (.aload_n 0, 1) := by decide +kernel
theorem own_d6_1 : decode prog_45_method_1_code 1 = .ok (.invokespecial 1, 3) := by decide +kernel
theorem own_pd4 : parseMethodDescriptor "()V" = some ⟨[], none⟩ := by decide +kernel
theorem own_d6_4 : decode prog_45_method_1_code 4 = .ok (.aload_n 0, 1) := by decide +kernel
theorem own_d6_5 : decode prog_45_method_1_code 5 = .ok (.aload_n 1, 1) := by decide +kernel
theorem own_d6_6 : decode prog_45_method_1_code 6 = .ok (.putfield 7, 3) := by decide +kernel
theorem own_d6_9 : decode prog_45_method_1_code 9 = .ok (.return_, 1) := by decide +kernel
theorem own_ef6_toN (m : MethodId) (to : Addr) : entryFrame m #[(.ref to), .null] 2 = mkF m 0 #[rv to, .val .null] [] := by first | (simp [entryFrame, mkF, argsToLocals, Value.category]; done) | rfl
def Q_toN (Z : State) (to : Addr) (h0 : Heap) (n0 : Nat) (v : Option Value) (h : Heap) (L : List Loc) : Prop := v = none ∧ Fr n0 L ∧ Keep h0 h [to] ∧ Fld Z h to "com/example/shapewright/shapewright/testsuite/TestOutcome" "reason" "Ljava/lang/String;" .null
set_option maxRecDepth 65536 in
set_option maxHeartbeats 40000000 in
theorem rm_toN (l : Launch) (Z : State) (av0 : Array Value) (hw : ∀ d ∈ tables_1, d.before av0 Z = true) (ws : List Jvm.Cond) (to : Addr) (h0 : Heap) (n0 : Nat) (Z0 : n0 ≤ h0.size) (HF0 : Exa Z h0 to "com/example/shapewright/shapewright/testsuite/TestOutcome") (HF1 : Fld Z h0 to "com/example/shapewright/shapewright/testsuite/TestOutcome" "reason" "Ljava/lang/String;" .null) (G_to : n0 ≤ to) :
    MetFree l (⟨"com/example/shapewright/shapewright/testsuite/TestOutcome", "<init>", "(Ljava/lang/String;)V"⟩ : MethodName) (head1 (Jvm.Cond.code (⟨"com/example/shapewright/shapewright/testsuite/TestOutcome", "<init>", "(Ljava/lang/String;)V"⟩ : MethodName) prog_45_method_1_code 2 none :: ws) ({ frames := 2, cells := 0, slots := 0, locals := 24 } : Room)) (fun a U => a = #[(.ref to), .null] ∧ Z.Warmed39 U.vm ∧ U.heap = h0) (fun _ _ _ _ _ => True) (fun _ U o U' => ∃ v L, o = .returned v ∧ (Q_toN Z to h0 n0) v U'.heap L ∧ FrameEnd U o U' L ({ frames := 2, cells := 0, slots := 0, locals := 24 } : Room).cells ({ frames := 2, cells := 0, slots := 0, locals := 24 } : Room).slots) := by
  refine MetFree.of_bodySF (plainFor_of_name own_pn_TestOutcome) hisR ?_
  intro p e s m args below meth c s₁ Bd hml0 hP hK
  obtain ⟨rfl, hZ, hh⟩ := hP
  have hx := Bd.exec
  have hby := Bd.bytes
  have hml : c.maxLocals = 2 := hml0
  have hown : s.vm.findClass "com/example/shapewright/shapewright/testsuite/TestOutcome" = some m.cls := findClass_of_methodNamed Bd.named
  have hnm := (name_of_methodNamed Bd.named Bd.method).1
  have hlk : meth.locks = false := BodyLoose.notSynchronized Bd
  have X0 : Stand p l e ({ frames := 2, cells := 0, slots := 0, locals := 24 } : Room) s m #[(.ref to), .null] below meth c s₁ [] 0 0 := Stand.of_body Bd
  have e0 : s₁.heap = h0 := by rw [← hh, Bd.state]; rfl
  have N0 := Fr.nil n0
  have K0 : Keep h0 h0 [to] := Keep.refl _ _
  have ww : ∀ (k : Nat) {d : Jvm.Cond}, tables_1[k]? = some d → d.before av0 Z = true := fun k d h => hw d (List.mem_of_getElem? h)
  show ownEnds p e below s (Q_toN Z to h0 n0) ({ frames := 2, cells := 0, slots := 0, locals := 24 } : Room).cells ({ frames := 2, cells := 0, slots := 0, locals := 24 } : Room).slots s₁ (entryFrame m #[(.ref to), .null] 2)
  refine ownCast (own_ef6_toN m to) ?_
  refine ow_aloadN (q := 1) X0 hx (hb hby own_d6_0) rfl rfl rfl ?_
  obtain ⟨_, _, ⟨T1, L1, k1, n1⟩, -, X1, ⟨Lc1, hQ1, l1, y1, z1⟩, st1⟩ := X0.specialBack hx (y := (⟨"java/lang/Record", "<init>", "()V"⟩ : MethodName)) rfl hown (mvT hZ (ww 32 rfl)) (mvT hZ (ww 33 rfl)) (mvT hZ (ww 36 rfl)) (by decide) (backOf (W := 0) (rm_rec l Z av0 hw [] to h0 n0 (Nat.le_trans Z0 K0.1) ) hZ (ww 36 rfl) (ww 35 rfl) (by decide) (by decide)) (g := (mkF m 1 #[rv to, .val .null] [(.ref to)])) rfl (by rw [hml]; rfl) (Steps.refl _) (a := to) (argsL := []) (rest := []) (lenOf own_pd4 rfl) rfl (by show 2 * 0 + _ ≤ _; exact Nat.le_of_eq rfl) (hb hby own_d6_1) (fun _ _ => ⟨rfl, e0, (by decide : 0 + 0 ≤ _), (by decide : 0 + 0 ≤ _)⟩)
  dsimp only [Pt.U, Pt.locs, Pt.cells, Pt.slots] at X1 l1 y1 z1 st1 hQ1
  subst l1 y1 z1
  obtain ⟨rfl, N1q, e1⟩ := hQ1
  have N1 := Fr.app N0 N1q
  refine ownRun (T' := T1) (f' := (mkF m 4 #[rv to, .val .null] [])) st1 ?_
  refine ow_aloadN (q := 5) X1 hx (hb hby own_d6_4) rfl rfl rfl ?_
  refine ow_aloadN (q := 6) X1 hx (hb hby own_d6_5) rfl rfl rfl ?_
  obtain ⟨T2, h2, X2, e2, W2, st2⟩ := putF X1 hx hZ hown (host := "") (Or.inl (ww 38 rfl)) Via.refl e1 HF1 HF0 (Or.inr ⟨(ww 39 rfl), rfl, hnm⟩) (ww 27 rfl) (ty := (.object "java/lang/String")) (by decide) rfl rfl (g := (mkF m 6 #[rv to, .val .null] [.null, (.ref to)])) rfl rfl (hb hby own_d6_6)
  have N2 := Fr.snoc X2 N1 G_to
  have K2 : Keep h0 h2 [to] := K0.wr W2 (Or.inl (List.mem_of_getElem? (i := 0) rfl))
  have F3 : Exa Z h2 to "com/example/shapewright/shapewright/testsuite/TestOutcome" := HF0.wr W2
  have F4 : Fld Z h2 to "com/example/shapewright/shapewright/testsuite/TestOutcome" "reason" "Ljava/lang/String;" .null := HF1.same W2
  refine ownGo (T' := T2) (f' := (mkF m 9 #[rv to, .val .null] [])) (st2) ?_
  refine ownRetV X2 hx Bd.returns (hb hby own_d6_9) hlk (by decide) (by decide) ?_
  rw [e2]
  exact ⟨rfl, N2, K2, F4⟩
theorem own_ef6_toR (m : MethodId) (to : Addr) (sr : Addr) : entryFrame m #[(.ref to), (.ref sr)] 2 = mkF m 0 #[rv to, rv sr] [] := by first | (simp [entryFrame, mkF, argsToLocals, Value.category]; done) | rfl
def Q_toR (Z : State) (to : Addr) (sr : Addr) (h0 : Heap) (n0 : Nat) (v : Option Value) (h : Heap) (L : List Loc) : Prop := v = none ∧ Fr n0 L ∧ Keep h0 h [to] ∧ Fld Z h to "com/example/shapewright/shapewright/testsuite/TestOutcome" "reason" "Ljava/lang/String;" (.ref sr)
set_option maxRecDepth 65536 in
set_option maxHeartbeats 40000000 in
theorem rm_toR (l : Launch) (Z : State) (av0 : Array Value) (hw : ∀ d ∈ tables_1, d.before av0 Z = true) (ws : List Jvm.Cond) (to : Addr) (sr : Addr) (h0 : Heap) (n0 : Nat) (Z0 : n0 ≤ h0.size) (HF0 : Exa Z h0 to "com/example/shapewright/shapewright/testsuite/TestOutcome") (HF1 : Fld Z h0 to "com/example/shapewright/shapewright/testsuite/TestOutcome" "reason" "Ljava/lang/String;" .null) (G_to : n0 ≤ to) :
    MetFree l (⟨"com/example/shapewright/shapewright/testsuite/TestOutcome", "<init>", "(Ljava/lang/String;)V"⟩ : MethodName) (head1 (Jvm.Cond.code (⟨"com/example/shapewright/shapewright/testsuite/TestOutcome", "<init>", "(Ljava/lang/String;)V"⟩ : MethodName) prog_45_method_1_code 2 none :: ws) ({ frames := 2, cells := 0, slots := 0, locals := 24 } : Room)) (fun a U => a = #[(.ref to), (.ref sr)] ∧ Z.Warmed39 U.vm ∧ U.heap = h0) (fun _ _ _ _ _ => True) (fun _ U o U' => ∃ v L, o = .returned v ∧ (Q_toR Z to sr h0 n0) v U'.heap L ∧ FrameEnd U o U' L ({ frames := 2, cells := 0, slots := 0, locals := 24 } : Room).cells ({ frames := 2, cells := 0, slots := 0, locals := 24 } : Room).slots) := by
  refine MetFree.of_bodySF (plainFor_of_name own_pn_TestOutcome) hisR ?_
  intro p e s m args below meth c s₁ Bd hml0 hP hK
  obtain ⟨rfl, hZ, hh⟩ := hP
  have hx := Bd.exec
  have hby := Bd.bytes
  have hml : c.maxLocals = 2 := hml0
  have hown : s.vm.findClass "com/example/shapewright/shapewright/testsuite/TestOutcome" = some m.cls := findClass_of_methodNamed Bd.named
  have hnm := (name_of_methodNamed Bd.named Bd.method).1
  have hlk : meth.locks = false := BodyLoose.notSynchronized Bd
  have X0 : Stand p l e ({ frames := 2, cells := 0, slots := 0, locals := 24 } : Room) s m #[(.ref to), (.ref sr)] below meth c s₁ [] 0 0 := Stand.of_body Bd
  have e0 : s₁.heap = h0 := by rw [← hh, Bd.state]; rfl
  have N0 := Fr.nil n0
  have K0 : Keep h0 h0 [to] := Keep.refl _ _
  have ww : ∀ (k : Nat) {d : Jvm.Cond}, tables_1[k]? = some d → d.before av0 Z = true := fun k d h => hw d (List.mem_of_getElem? h)
  show ownEnds p e below s (Q_toR Z to sr h0 n0) ({ frames := 2, cells := 0, slots := 0, locals := 24 } : Room).cells ({ frames := 2, cells := 0, slots := 0, locals := 24 } : Room).slots s₁ (entryFrame m #[(.ref to), (.ref sr)] 2)
  refine ownCast (own_ef6_toR m to sr) ?_
  refine ow_aloadN (q := 1) X0 hx (hb hby own_d6_0) rfl rfl rfl ?_
  obtain ⟨_, _, ⟨T1, L1, k1, n1⟩, -, X1, ⟨Lc1, hQ1, l1, y1, z1⟩, st1⟩ := X0.specialBack hx (y := (⟨"java/lang/Record", "<init>", "()V"⟩ : MethodName)) rfl hown (mvT hZ (ww 32 rfl)) (mvT hZ (ww 33 rfl)) (mvT hZ (ww 36 rfl)) (by decide) (backOf (W := 0) (rm_rec l Z av0 hw [] to h0 n0 (Nat.le_trans Z0 K0.1) ) hZ (ww 36 rfl) (ww 35 rfl) (by decide) (by decide)) (g := (mkF m 1 #[rv to, rv sr] [(.ref to)])) rfl (by rw [hml]; rfl) (Steps.refl _) (a := to) (argsL := []) (rest := []) (lenOf own_pd4 rfl) rfl (by show 2 * 0 + _ ≤ _; exact Nat.le_of_eq rfl) (hb hby own_d6_1) (fun _ _ => ⟨rfl, e0, (by decide : 0 + 0 ≤ _), (by decide : 0 + 0 ≤ _)⟩)
  dsimp only [Pt.U, Pt.locs, Pt.cells, Pt.slots] at X1 l1 y1 z1 st1 hQ1
  subst l1 y1 z1
  obtain ⟨rfl, N1q, e1⟩ := hQ1
  have N1 := Fr.app N0 N1q
  refine ownRun (T' := T1) (f' := (mkF m 4 #[rv to, rv sr] [])) st1 ?_
  refine ow_aloadN (q := 5) X1 hx (hb hby own_d6_4) rfl rfl rfl ?_
  refine ow_aloadN (q := 6) X1 hx (hb hby own_d6_5) rfl rfl rfl ?_
  obtain ⟨T2, h2, X2, e2, W2, st2⟩ := putF X1 hx hZ hown (host := "") (Or.inl (ww 38 rfl)) Via.refl e1 HF1 HF0 (Or.inr ⟨(ww 39 rfl), rfl, hnm⟩) (ww 27 rfl) (ty := (.object "java/lang/String")) (by decide) rfl rfl (g := (mkF m 6 #[rv to, rv sr] [(.ref sr), (.ref to)])) rfl rfl (hb hby own_d6_6)
  have N2 := Fr.snoc X2 N1 G_to
  have K2 : Keep h0 h2 [to] := K0.wr W2 (Or.inl (List.mem_of_getElem? (i := 0) rfl))
  have F3 : Exa Z h2 to "com/example/shapewright/shapewright/testsuite/TestOutcome" := HF0.wr W2
  have F4 : Fld Z h2 to "com/example/shapewright/shapewright/testsuite/TestOutcome" "reason" "Ljava/lang/String;" (.ref sr) := HF1.same W2
  refine ownGo (T' := T2) (f' := (mkF m 9 #[rv to, rv sr] [])) (st2) ?_
  refine ownRetV X2 hx Bd.returns (hb hby own_d6_9) hlk (by decide) (by decide) ?_
  rw [e2]
  exact ⟨rfl, N2, K2, F4⟩
theorem own_d8_0 : decode prog_45_method_3_code 0 = .ok (.aload_n 0, 1) := by decide +kernel
theorem own_d8_1 : decode prog_45_method_3_code 1 = .ok (.getfield 7, 3) := by decide +kernel
theorem own_d8_4 : decode prog_45_method_3_code 4 = .ok (.ifnonnull 7, 3) := by decide +kernel
theorem own_d8_7 : decode prog_45_method_3_code 7 = .ok (.iconst 1, 1) := by decide +kernel
theorem own_d8_8 : decode prog_45_method_3_code 8 = .ok (.goto 4, 3) := by decide +kernel
theorem own_d8_12 : decode prog_45_method_3_code 12 = .ok (.ireturn, 1) := by decide +kernel
theorem own_ef8_paN (m : MethodId) (to : Addr) : entryFrame m #[(.ref to)] 1 = mkF m 0 #[rv to] [] := by first | (simp [entryFrame, mkF, argsToLocals, Value.category]; done) | rfl
def Q_paN (Z : State) (to : Addr) (h0 : Heap) (n0 : Nat) (v : Option Value) (h : Heap) (L : List Loc) : Prop := v = some (.int (1 : Int32)) ∧ Fr n0 L ∧ h = h0
set_option maxRecDepth 65536 in
set_option maxHeartbeats 40000000 in
theorem rm_paN (l : Launch) (Z : State) (av0 : Array Value) (hw : ∀ d ∈ tables_1, d.before av0 Z = true) (ws : List Jvm.Cond) (to : Addr) (h0 : Heap) (n0 : Nat) (Z0 : n0 ≤ h0.size) (HF0 : Fld Z h0 to "com/example/shapewright/shapewright/testsuite/TestOutcome" "reason" "Ljava/lang/String;" .null) :
    MetFree l (⟨"com/example/shapewright/shapewright/testsuite/TestOutcome", "passed", "()Z"⟩ : MethodName) (head1 (Jvm.Cond.code (⟨"com/example/shapewright/shapewright/testsuite/TestOutcome", "passed", "()Z"⟩ : MethodName) prog_45_method_3_code 1 (some .boolean) :: ws) ({ frames := 0, cells := 0, slots := 0, locals := 0 } : Room)) (fun a U => a = #[(.ref to)] ∧ Z.Warmed39 U.vm ∧ U.heap = h0) (fun _ _ _ _ _ => True) (fun _ U o U' => ∃ v L, o = .returned v ∧ (Q_paN Z to h0 n0) v U'.heap L ∧ FrameEnd U o U' L ({ frames := 0, cells := 0, slots := 0, locals := 0 } : Room).cells ({ frames := 0, cells := 0, slots := 0, locals := 0 } : Room).slots) := by
  refine MetFree.of_bodySF (plainFor_of_name own_pn_TestOutcome) hisR ?_
  intro p e s m args below meth c s₁ Bd hml0 hP hK
  obtain ⟨rfl, hZ, hh⟩ := hP
  have hx := Bd.exec
  have hby := Bd.bytes
  have hml : c.maxLocals = 1 := hml0
  have hown : s.vm.findClass "com/example/shapewright/shapewright/testsuite/TestOutcome" = some m.cls := findClass_of_methodNamed Bd.named
  have hnm := (name_of_methodNamed Bd.named Bd.method).1
  have hlk : meth.locks = false := BodyLoose.notSynchronized Bd
  have X0 : Stand p l e ({ frames := 0, cells := 0, slots := 0, locals := 0 } : Room) s m #[(.ref to)] below meth c s₁ [] 0 0 := Stand.of_body Bd
  have e0 : s₁.heap = h0 := by rw [← hh, Bd.state]; rfl
  have N0 := Fr.nil n0
  have K0 : Keep h0 h0 [] := Keep.refl _ _
  have ww : ∀ (k : Nat) {d : Jvm.Cond}, tables_1[k]? = some d → d.before av0 Z = true := fun k d h => hw d (List.mem_of_getElem? h)
  show ownEnds p e below s (Q_paN Z to h0 n0) ({ frames := 0, cells := 0, slots := 0, locals := 0 } : Room).cells ({ frames := 0, cells := 0, slots := 0, locals := 0 } : Room).slots s₁ (entryFrame m #[(.ref to)] 1)
  refine ownCast (own_ef8_paN m to) ?_
  refine ow_aloadN (q := 1) X0 hx (hb hby own_d8_0) rfl rfl rfl ?_
  obtain ⟨T1, X1, e1, st1⟩ := getF X0 hx hZ hown (host := "") (Or.inl (ww 38 rfl)) Via.refl e0 HF0 (g := (mkF m 1 #[rv to] [(.ref to)])) rfl rfl (hb hby own_d8_1)
  refine ownGo (T' := T1) (f' := (mkF m 4 #[rv to] [.null])) (st1) ?_
  refine ownGo (T' := T1) (f' := (mkF m 7 #[rv to] [])) (fun _ k => XS.ifnonnullNo X1.here hx rfl (hb hby own_d8_4) rfl k) ?_
  refine ow_iconst (q := 8) X1 hx (1 : Int32) (hb hby own_d8_7) rfl rfl ?_
  refine ow_goto (q := 12) X1 hx (hb hby own_d8_8) (by decide) (by decide) ?_
  refine ownRetN X1 hx (r := (1 : Int32)) (Or.inl rfl) Bd.returns (hb hby own_d8_12) hlk (by decide) (by decide) (by decide) ?_
  rw [e1]
  exact ⟨rfl, N0, rfl⟩
theorem own_d8_11 : decode prog_45_method_3_code 11 = .ok (.iconst 0, 1) := by decide +kernel
theorem own_ef8_paR (m : MethodId) (to : Addr) : entryFrame m #[(.ref to)] 1 = mkF m 0 #[rv to] [] := by first | (simp [entryFrame, mkF, argsToLocals, Value.category]; done) | rfl
def Q_paR (Z : State) (to : Addr) (sr : Addr) (h0 : Heap) (n0 : Nat) (v : Option Value) (h : Heap) (L : List Loc) : Prop := v = some (.int (0 : Int32)) ∧ Fr n0 L ∧ h = h0
set_option maxRecDepth 65536 in
set_option maxHeartbeats 40000000 in
theorem rm_paR (l : Launch) (Z : State) (av0 : Array Value) (hw : ∀ d ∈ tables_1, d.before av0 Z = true) (ws : List Jvm.Cond) (to : Addr) (sr : Addr) (h0 : Heap) (n0 : Nat) (Z0 : n0 ≤ h0.size) (HF0 : Fld Z h0 to "com/example/shapewright/shapewright/testsuite/TestOutcome" "reason" "Ljava/lang/String;" (.ref sr)) :
    MetFree l (⟨"com/example/shapewright/shapewright/testsuite/TestOutcome", "passed", "()Z"⟩ : MethodName) (head1 (Jvm.Cond.code (⟨"com/example/shapewright/shapewright/testsuite/TestOutcome", "passed", "()Z"⟩ : MethodName) prog_45_method_3_code 1 (some .boolean) :: ws) ({ frames := 0, cells := 0, slots := 0, locals := 0 } : Room)) (fun a U => a = #[(.ref to)] ∧ Z.Warmed39 U.vm ∧ U.heap = h0) (fun _ _ _ _ _ => True) (fun _ U o U' => ∃ v L, o = .returned v ∧ (Q_paR Z to sr h0 n0) v U'.heap L ∧ FrameEnd U o U' L ({ frames := 0, cells := 0, slots := 0, locals := 0 } : Room).cells ({ frames := 0, cells := 0, slots := 0, locals := 0 } : Room).slots) := by
  refine MetFree.of_bodySF (plainFor_of_name own_pn_TestOutcome) hisR ?_
  intro p e s m args below meth c s₁ Bd hml0 hP hK
  obtain ⟨rfl, hZ, hh⟩ := hP
  have hx := Bd.exec
  have hby := Bd.bytes
  have hml : c.maxLocals = 1 := hml0
  have hown : s.vm.findClass "com/example/shapewright/shapewright/testsuite/TestOutcome" = some m.cls := findClass_of_methodNamed Bd.named
  have hnm := (name_of_methodNamed Bd.named Bd.method).1
  have hlk : meth.locks = false := BodyLoose.notSynchronized Bd
  have X0 : Stand p l e ({ frames := 0, cells := 0, slots := 0, locals := 0 } : Room) s m #[(.ref to)] below meth c s₁ [] 0 0 := Stand.of_body Bd
  have e0 : s₁.heap = h0 := by rw [← hh, Bd.state]; rfl
  have N0 := Fr.nil n0
  have K0 : Keep h0 h0 [] := Keep.refl _ _
  have ww : ∀ (k : Nat) {d : Jvm.Cond}, tables_1[k]? = some d → d.before av0 Z = true := fun k d h => hw d (List.mem_of_getElem? h)
  show ownEnds p e below s (Q_paR Z to sr h0 n0) ({ frames := 0, cells := 0, slots := 0, locals := 0 } : Room).cells ({ frames := 0, cells := 0, slots := 0, locals := 0 } : Room).slots s₁ (entryFrame m #[(.ref to)] 1)
  refine ownCast (own_ef8_paR m to) ?_
  refine ow_aloadN (q := 1) X0 hx (hb hby own_d8_0) rfl rfl rfl ?_
  obtain ⟨T1, X1, e1, st1⟩ := getF X0 hx hZ hown (host := "") (Or.inl (ww 38 rfl)) Via.refl e0 HF0 (g := (mkF m 1 #[rv to] [(.ref to)])) rfl rfl (hb hby own_d8_1)
  refine ownGo (T' := T1) (f' := (mkF m 4 #[rv to] [(.ref sr)])) (st1) ?_
  refine ownGo (T' := T1) (f' := (mkF m 11 #[rv to] [])) (fun _ k => XS.ifnonnullYes X1.here hx rfl (pc0 := 4) (pc' := 11) rfl (hb hby own_d8_4) rfl (by decide) (by decide) k) ?_
  refine ow_iconst (q := 12) X1 hx (0 : Int32) (hb hby own_d8_11) rfl rfl ?_
  refine ownRetN X1 hx (r := (0 : Int32)) (Or.inl rfl) Bd.returns (hb hby own_d8_12) hlk (by decide) (by decide) (by decide) ?_
  rw [e1]
  exact ⟨rfl, N0, rfl⟩
theorem own_pn_Objects : plainName "java/util/Objects" = true := by first | (simp [plainName, overriddenIn]; done) | decide +kernel
theorem own_d10_0 : decode jdk_31_method_11_code 0 = .ok (.aload_n 0, 1) := by decide +kernel
theorem own_d10_1 : decode jdk_31_method_11_code 1 = .ok (.ifnonnull 12, 3) := by decide +kernel
theorem own_d10_13 : decode jdk_31_method_11_code 13 = .ok (.aload_n 0, 1) := by decide +kernel
theorem own_d10_14 : decode jdk_31_method_11_code 14 = .ok (.areturn, 1) := by decide +kernel
theorem own_ef10_rnn (m : MethodId) (ro : Addr) (rg : Addr) : entryFrame m #[(.ref ro), (.ref rg)] 2 = mkF m 0 #[rv ro, rv rg] [] := by first | (simp [entryFrame, mkF, argsToLocals, Value.category]; done) | rfl
def Q_rnn (Z : State) (ro : Addr) (rg : Addr) (h0 : Heap) (n0 : Nat) (v : Option Value) (h : Heap) (L : List Loc) : Prop := v = some (.ref ro) ∧ Fr n0 L ∧ h = h0
set_option maxRecDepth 65536 in
set_option maxHeartbeats 40000000 in
theorem rm_rnn (l : Launch) (Z : State) (av0 : Array Value) (hw : ∀ d ∈ tables_1, d.before av0 Z = true) (ws : List Jvm.Cond) (ro : Addr) (rg : Addr) (h0 : Heap) (n0 : Nat) (Z0 : n0 ≤ h0.size) :
    MetFree l (⟨"java/util/Objects", "requireNonNull", "(Ljava/lang/Object;Ljava/lang/String;)Ljava/lang/Object;"⟩ : MethodName) (head1 (Jvm.Cond.code (⟨"java/util/Objects", "requireNonNull", "(Ljava/lang/Object;Ljava/lang/String;)Ljava/lang/Object;"⟩ : MethodName) jdk_31_method_11_code 2 (some (.object "java/lang/Object")) :: ws) ({ frames := 0, cells := 0, slots := 0, locals := 0 } : Room)) (fun a U => a = #[(.ref ro), (.ref rg)] ∧ Z.Warmed39 U.vm ∧ U.heap = h0) (fun _ _ _ _ _ => True) (fun _ U o U' => ∃ v L, o = .returned v ∧ (Q_rnn Z ro rg h0 n0) v U'.heap L ∧ FrameEnd U o U' L ({ frames := 0, cells := 0, slots := 0, locals := 0 } : Room).cells ({ frames := 0, cells := 0, slots := 0, locals := 0 } : Room).slots) := by
  refine MetFree.of_bodySF (plainFor_of_name own_pn_Objects) hisR ?_
  intro p e s m args below meth c s₁ Bd hml0 hP hK
  obtain ⟨rfl, hZ, hh⟩ := hP
  have hx := Bd.exec
  have hby := Bd.bytes
  have hml : c.maxLocals = 2 := hml0
  have hown : s.vm.findClass "java/util/Objects" = some m.cls := findClass_of_methodNamed Bd.named
  have hnm := (name_of_methodNamed Bd.named Bd.method).1
  have hlk : meth.locks = false := BodyLoose.notSynchronized Bd
  have X0 : Stand p l e ({ frames := 0, cells := 0, slots := 0, locals := 0 } : Room) s m #[(.ref ro), (.ref rg)] below meth c s₁ [] 0 0 := Stand.of_body Bd
  have e0 : s₁.heap = h0 := by rw [← hh, Bd.state]; rfl
  have N0 := Fr.nil n0
  have K0 : Keep h0 h0 [] := Keep.refl _ _
  have ww : ∀ (k : Nat) {d : Jvm.Cond}, tables_1[k]? = some d → d.before av0 Z = true := fun k d h => hw d (List.mem_of_getElem? h)
  show ownEnds p e below s (Q_rnn Z ro rg h0 n0) ({ frames := 0, cells := 0, slots := 0, locals := 0 } : Room).cells ({ frames := 0, cells := 0, slots := 0, locals := 0 } : Room).slots s₁ (entryFrame m #[(.ref ro), (.ref rg)] 2)
  refine ownCast (own_ef10_rnn m ro rg) ?_
  refine ow_aloadN (q := 1) X0 hx (hb hby own_d10_0) rfl rfl rfl ?_
  refine ownGo (T' := s₁) (f' := (mkF m 13 #[rv ro, rv rg] [])) (fun _ k => XS.ifnonnullYes X0.here hx rfl (pc0 := 1) (pc' := 13) rfl (hb hby own_d10_1) rfl (by decide) (by decide) k) ?_
  refine ow_aloadN (q := 14) X0 hx (hb hby own_d10_13) rfl rfl rfl ?_
  refine ownRetR X0 hx rfl rfl rfl Bd.returns (hb hby own_d10_14) hlk (by decide) (by decide) ?_
  rw [e0]
  exact ⟨rfl, N0, rfl⟩
theorem own_d9_0 : decode prog_45_method_2_code 0 = .ok (.new 8, 3) := by decide +kernel
theorem own_d9_3 : decode prog_45_method_2_code 3 = .ok (.dup, 1) := by decide +kernel
theorem own_d9_4 : decode prog_45_method_2_code 4 = .ok (.aload_n 0, 1) := by decide +kernel
theorem own_d9_5 : decode prog_45_method_2_code 5 = .ok (.ldc 13, 2) := by decide +kernel
theorem own_d9_7 : decode prog_45_method_2_code 7 = .ok (.invokestatic 14, 3) := by decide +kernel
theorem own_pd5 : parseMethodDescriptor "(Ljava/lang/Object;Ljava/lang/String;)Ljava/lang/Object;" = some ⟨[(.object "java/lang/Object"), (.object "java/lang/String")], some (.object "java/lang/Object")⟩ := by decide +kernel
theorem own_d9_10 : decode prog_45_method_2_code 10 = .ok (.checkcast 20, 3) := by decide +kernel
theorem own_d9_13 : decode prog_45_method_2_code 13 = .ok (.invokespecial 22, 3) := by decide +kernel
theorem own_pd6 : parseMethodDescriptor "(Ljava/lang/String;)V" = some ⟨[(.object "java/lang/String")], none⟩ := by decide +kernel
theorem own_d9_16 : decode prog_45_method_2_code 16 = .ok (.areturn, 1) := by decide +kernel
theorem own_ef9_failed (m : MethodId) (sr : Addr) : entryFrame m #[(.ref sr)] 1 = mkF m 0 #[rv sr] [] := by first | (simp [entryFrame, mkF, argsToLocals, Value.category]; done) | rfl
def Q_failed (Z : State) (sr : Addr) (h0 : Heap) (n0 : Nat) (v : Option Value) (h : Heap) (L : List Loc) : Prop := ∃ (r : Addr), v = some (.ref r) ∧ Fr n0 L ∧ Keep h0 h [] ∧ h0.size ≤ r ∧ Exa Z h r "com/example/shapewright/shapewright/testsuite/TestOutcome" ∧ Fld Z h r "com/example/shapewright/shapewright/testsuite/TestOutcome" "reason" "Ljava/lang/String;" (.ref sr)
set_option maxRecDepth 65536 in
set_option maxHeartbeats 40000000 in
theorem rm_failed (l : Launch) (Z : State) (av0 : Array Value) (hw : ∀ d ∈ tables_1, d.before av0 Z = true) (ws : List Jvm.Cond) (sr : Addr) (h0 : Heap) (n0 : Nat) (Z0 : n0 ≤ h0.size) (HF0 : Exa Z h0 sr "java/lang/String") :
    MetFree l (⟨"com/example/shapewright/shapewright/testsuite/TestOutcome", "failed", "(Ljava/lang/String;)Lcom/example/shapewright/shapewright/testsuite/TestOutcome;"⟩ : MethodName) (head1 (Jvm.Cond.code (⟨"com/example/shapewright/shapewright/testsuite/TestOutcome", "failed", "(Ljava/lang/String;)Lcom/example/shapewright/shapewright/testsuite/TestOutcome;"⟩ : MethodName) prog_45_method_2_code 1 (some (.object "com/example/shapewright/shapewright/testsuite/TestOutcome")) :: ws) ({ frames := 3, cells := 3, slots := 29, locals := 38 } : Room)) (fun a U => a = #[(.ref sr)] ∧ Z.Warmed39 U.vm ∧ U.heap = h0) (fun _ _ _ _ _ => True) (fun _ U o U' => ∃ v L, o = .returned v ∧ (Q_failed Z sr h0 n0) v U'.heap L ∧ ReturnedEndW U o U' L ({ frames := 3, cells := 3, slots := 29, locals := 38 } : Room).cells ({ frames := 3, cells := 3, slots := 29, locals := 38 } : Room).slots) := by
  refine MetFree.of_bodySF (plainFor_of_name own_pn_TestOutcome) hisR ?_
  intro p e s m args below meth c s₁ Bd hml0 hP hK
  obtain ⟨rfl, hZ, hh⟩ := hP
  have hx := Bd.exec
  have hby := Bd.bytes
  have hml : c.maxLocals = 1 := hml0
  have hown : s.vm.findClass "com/example/shapewright/shapewright/testsuite/TestOutcome" = some m.cls := findClass_of_methodNamed Bd.named
  have hnm := (name_of_methodNamed Bd.named Bd.method).1
  have hlk : meth.locks = false := BodyLoose.notSynchronized Bd
  have X0 : Stand p l e ({ frames := 3, cells := 3, slots := 29, locals := 38 } : Room) s m #[(.ref sr)] below meth c s₁ [] 0 0 := Stand.of_body Bd
  have e0 : s₁.heap = h0 := by rw [← hh, Bd.state]; rfl
  have N0 := Fr.nil n0
  have K0 : Keep h0 h0 [] := Keep.refl _ _
  have ww : ∀ (k : Nat) {d : Jvm.Cond}, tables_1[k]? = some d → d.before av0 Z = true := fun k d h => hw d (List.mem_of_getElem? h)
  have wStr : ∀ d ∈ Bundle.stringAtoms, d.before av0 Z = true := fun d hd => hw d ((by decide +kernel : ∀ d ∈ Bundle.stringAtoms, d ∈ tables_1) d hd)
  show ownEndsW p e below s (Q_failed Z sr h0 n0) ({ frames := 3, cells := 3, slots := 29, locals := 38 } : Room).cells ({ frames := 3, cells := 3, slots := 29, locals := 38 } : Room).slots s₁ (entryFrame m #[(.ref sr)] 1)
  refine ownCastW (own_ef9_failed m sr) ?_
  obtain ⟨T1, h1, X1, e1, E1, A1, D1, -, st1⟩ := newO X0 hx hZ hown (ww 48 rfl) (ww 27 rfl) (ww 28 rfl) e0 (g := (mkF m 0 #[rv sr] [])) rfl (hb hby own_d9_0) (by decide) (by decide)
  obtain ⟨b1, g1⟩ : ∃ z, z = h0.size := ⟨_, rfl⟩
  rw [← g1] at A1 D1 st1
  have ne_sr_b1 : sr ≠ b1 := Nat.ne_of_lt (Nat.lt_of_lt_of_le HF0.lt (Nat.le_of_eq g1.symm))
  have sz_b1 : h0.size ≤ b1 := Nat.le_trans K0.1 (Nat.le_of_eq g1.symm)
  have G_b1 : n0 ≤ b1 := Nat.le_trans Z0 sz_b1
  have K1 : Keep h0 h1 [] := K0.ext E1
  have F2 : Exa Z h1 sr "java/lang/String" := HF0.ext E1
  have F3 : Fld Z h1 b1 "com/example/shapewright/shapewright/testsuite/TestOutcome" "reason" "Ljava/lang/String;" .null := D1 (Or.inr (ww 39 rfl)) (ty := (.object "java/lang/String")) (by decide)
  refine ownGoW (T' := T1) (f' := (mkF m 3 #[rv sr] [(.ref b1)])) (st1) ?_
  refine ow_dupW (q := 4) X1 hx (hb hby own_d9_3) rfl rfl ?_
  refine ow_aloadNW (q := 5) X1 hx (hb hby own_d9_4) rfl rfl rfl ?_
  obtain ⟨cs4, T4, h4, X4, hS4, e4, E4, st4⟩ := ownLdc X1 hx hZ hown (ww 49 rfl) wStr e1 (g := (mkF m 5 #[rv sr] [(.ref sr), (.ref b1), (.ref b1)])) rfl (hb hby own_d9_5) (n := 24) (by decide) (by decide) (by decide) (by decide)
  have K4 : Keep h0 h4 [] := K1.ext E4
  have F5 : Exa Z h4 sr "java/lang/String" := F2.ext E4
  have F6 : Exa Z h4 b1 "com/example/shapewright/shapewright/testsuite/TestOutcome" := A1.ext E4
  have F7 : Fld Z h4 b1 "com/example/shapewright/shapewright/testsuite/TestOutcome" "reason" "Ljava/lang/String;" .null := F3.ext E4
  refine ownGoW (T' := T4) (f' := (mkF m 7 #[rv sr] [(.ref cs4), (.ref sr), (.ref b1), (.ref b1)])) (st4) ?_
  refine ownRebaseW hZ hown hS4 X4 ?_
  intro s X4 hZ hown
  obtain ⟨_, _, ⟨T8, L8, k8, n8⟩, -, X8, ⟨Lc8, hQ8, l8, y8, z8⟩, st8⟩ := Jvm.LawKit.callS X4 hx (y := (⟨"java/util/Objects", "requireNonNull", "(Ljava/lang/Object;Ljava/lang/String;)Ljava/lang/Object;"⟩ : MethodName)) hown (mvT hZ (ww 52 rfl)) (mvT hZ (ww 53 rfl)) (mvT hZ (ww 54 rfl)) (mvT hZ (ww 55 rfl)) (by decide) (backOf (W := 2) (rm_rnn l Z av0 hw [] sr cs4 h4 n0 (Nat.le_trans Z0 K4.1) ) hZ (ww 55 rfl) (ww 54 rfl) (by decide) (by decide)) (g := (mkF m 7 #[rv sr] [(.ref cs4), (.ref sr), (.ref b1), (.ref b1)])) rfl (by rw [hml]; rfl) (argsL := [(.ref sr), (.ref cs4)]) (rest := [(.ref b1), (.ref b1)]) (lenOf own_pd5 rfl) rfl (by show 2 * 0 + _ ≤ _; exact Nat.le_of_eq rfl) (hb hby own_d9_7) (fun _ _ => ⟨rfl, e4, (by decide : 3 + 0 ≤ _), (by decide : 29 + 0 ≤ _)⟩)
  dsimp only [Pt.U, Pt.locs, Pt.cells, Pt.slots] at X8 l8 y8 z8 st8 hQ8
  subst l8 y8 z8
  obtain ⟨rfl, N8q, e8⟩ := hQ8
  have N8 := Fr.app N0 N8q
  refine ownGoW (T' := T8) (f' := (mkF m 10 #[rv sr] [(.ref sr), (.ref b1), (.ref b1)])) (st8) ?_
  obtain ⟨T9, X9, e9, st9⟩ := castY X8 hx hZ hown (ww 56 rfl) e8 (Ins.self F5) (g := (mkF m 10 #[rv sr] [(.ref sr), (.ref b1), (.ref b1)])) rfl rfl (hb hby own_d9_10)
  refine ownGoW (T' := T9) (f' := (mkF m 13 #[rv sr] [(.ref sr), (.ref b1), (.ref b1)])) (st9) ?_
  obtain ⟨_, _, ⟨T10, L10, k10, n10⟩, -, X10, ⟨Lc10, hQ10, l10, y10, z10⟩, st10⟩ := X9.specialBack hx (y := (⟨"com/example/shapewright/shapewright/testsuite/TestOutcome", "<init>", "(Ljava/lang/String;)V"⟩ : MethodName)) rfl hown (mvT hZ (ww 57 rfl)) (mvT hZ (ww 30 rfl)) (mvT hZ (ww 31 rfl)) (by decide) (backOf (W := 1) (rm_toR l Z av0 hw [] b1 sr h4 n0 (Nat.le_trans Z0 K4.1) F6 F7 G_b1) hZ (ww 31 rfl) (ww 28 rfl) (by decide) (by decide)) (g := (mkF m 13 #[rv sr] [(.ref sr), (.ref b1), (.ref b1)])) rfl (by rw [hml]; rfl) (Steps.refl _) (a := b1) (argsL := [(.ref sr)]) (rest := [(.ref b1)]) (lenOf own_pd6 rfl) rfl (by show 2 * 0 + _ ≤ _; exact Nat.le_of_eq rfl) (hb hby own_d9_13) (fun _ _ => ⟨rfl, e9, (by decide : 3 + 0 ≤ _), (by decide : 29 + 0 ≤ _)⟩)
  dsimp only [Pt.U, Pt.locs, Pt.cells, Pt.slots] at X10 l10 y10 z10 st10 hQ10
  subst l10 y10 z10
  obtain ⟨rfl, N10q, Kq10, FP10_0⟩ := hQ10
  have N10 := Fr.app N8 N10q
  have K10 : Keep h0 T10.heap [] := K4.trans Kq10 (allS (Or.inr sz_b1) all0)
  have F11 : Exa Z T10.heap sr "java/lang/String" := F5.keep Kq10
  have F12 : Exa Z T10.heap b1 "com/example/shapewright/shapewright/testsuite/TestOutcome" := F6.keep Kq10
  refine ownRunW (T' := T10) (f' := (mkF m 16 #[rv sr] [(.ref b1)])) st10 ?_
  refine ownRetRW X10 hx rfl rfl rfl Bd.returns (hb hby own_d9_16) hlk (by decide) (by decide) ?_
  refine ⟨?_, Kq10.1⟩
  exact ⟨b1, rfl, N10, K10, sz_b1, F12, FP10_0⟩
theorem own_pn_TestOutcomePassedPinLaw : plainName "com/example/shapewright/shapewright/testsuite/TestOutcomePassedPinLaw" = true := by first | (simp [plainName, overriddenIn]; done) | decide +kernel
theorem own_pd7 : parseMethodDescriptor "([C)V" = some ⟨[(.array .char)], none⟩ := by decide +kernel
theorem own_pd8 : parseMethodDescriptor "()Z" = some ⟨[], some .boolean⟩ := by decide +kernel
theorem own_pd9 : parseMethodDescriptor "(Ljava/lang/String;)Lcom/example/shapewright/shapewright/testsuite/TestOutcome;" = some ⟨[(.object "java/lang/String")], some (.object "com/example/shapewright/shapewright/testsuite/TestOutcome")⟩ := by decide +kernel
theorem own_pd10 : parseMethodDescriptor "(C)Ljava/lang/String;" = some ⟨[.char], some (.object "java/lang/String")⟩ := by decide +kernel
theorem own_ef0_law (m : MethodId) (p0 : Int32) (p1 : Int32) (p2 : Int32) : entryFrame m #[(.int p0), (.int p1), (.int p2)] maxLocals = mkF m 0 #[iv p0, iv p1, iv p2, .unset, .unset, .unset, .unset, .unset] [] := by first | (simp [entryFrame, mkF, argsToLocals, Value.category, maxLocals]; done) | rfl
def Q_law (Z : State) (p0 : Int32) (p1 : Int32) (p2 : Int32) (zc : Int32) (xp : Addr) (h0 : Heap) (n0 : Nat) (v : Option Value) (h : Heap) (L : List Loc) : Prop := v = some (.int 1) ∧ Fr n0 L
set_option maxRecDepth 65536 in
set_option maxHeartbeats 40000000 in
theorem rm_law (l : Launch) (Z : State) (av0 : Array Value) (hw : ∀ d ∈ tables_1, d.before av0 Z = true) (ws : List Jvm.Cond) (p0 : Int32) (p1 : Int32) (p2 : Int32) (zc : Int32) (xp : Addr) (h0 : Heap) (n0 : Nat) (Z0 : n0 ≤ h0.size) (HF0 : Sta Z h0 "java/lang/String" "COMPACT_STRINGS" "Z" (.int zc)) (HF1 : Sta Z h0 "com/example/shapewright/shapewright/testsuite/TestOutcome" "PASSED" "Lcom/example/shapewright/shapewright/testsuite/TestOutcome;" (.ref xp)) (HF2 : Exa Z h0 xp "com/example/shapewright/shapewright/testsuite/TestOutcome") (HF3 : Fld Z h0 xp "com/example/shapewright/shapewright/testsuite/TestOutcome" "reason" "Ljava/lang/String;" .null) (hz : ¬ zc = (0 : Int32)) :
    MetFree l x (head1 (Jvm.Cond.code x code maxLocals ret :: ws) room_1) (fun a U => a = #[(.int p0), (.int p1), (.int p2)] ∧ Z.Warmed39 U.vm ∧ U.heap = h0 ∧ CHv Z [("java/lang/String", 7)] U.vm h0) (fun _ _ _ _ _ => True) (fun _ U o U' => ∃ v L, o = .returned v ∧ (Q_law Z p0 p1 p2 zc xp h0 n0) v U'.heap L ∧ ReturnedEndW U o U' L 24 2176) := by
  refine MetFree.of_bodySF (plainFor_of_name own_pn_TestOutcomePassedPinLaw) hisR ?_
  intro p e s m args below meth c s₁ Bd hml0 hP hK
  obtain ⟨rfl, hZ, hh, hCH⟩ := hP
  have hx := Bd.exec
  have hby := Bd.bytes
  have hml : c.maxLocals = 8 := hml0
  have hown : s.vm.findClass "com/example/shapewright/shapewright/testsuite/TestOutcomePassedPinLaw" = some m.cls := findClass_of_methodNamed Bd.named
  have hnm := (name_of_methodNamed Bd.named Bd.method).1
  have hlk : meth.locks = false := BodyLoose.notSynchronized Bd
  have X0 : Stand p l e room_1 s m #[(.int p0), (.int p1), (.int p2)] below meth c s₁ [] 0 0 := Stand.of_body Bd
  have e0 : s₁.heap = h0 := by rw [← hh, Bd.state]; rfl
  have N0 := Fr.nil n0
  have K0 : Keep h0 h0 [] := Keep.refl _ _
  have ww : ∀ (k : Nat) {d : Jvm.Cond}, tables_1[k]? = some d → d.before av0 Z = true := fun k d h => hw d (List.mem_of_getElem? h)
  show ownEndsW p e below s (Q_law Z p0 p1 p2 zc xp h0 n0) 24 2176 s₁ (entryFrame m #[(.int p0), (.int p1), (.int p2)] maxLocals)
  refine ownCastW (own_ef0_law m p0 p1 p2) ?_
  refine ow_iloadNW (q := 1) X0 hx (hb hby at_0) rfl rfl ?_
  refine ow_iconstW (q := 2) X0 hx (1 : Int32) (hb hby at_1) rfl rfl ?_
  refine ow_iandW (q := 3) X0 hx _ (hb hby at_2) rfl rfl ?_
  by_cases hc3_1 : (p2 &&& (1 : Int32)) = (0 : Int32)
  · refine ow_ifYesW (q := 10) X0 hx (hb hby at_3) (Jvm.Free.XT.i0_eq_t hc3_1) (by decide) (by decide) ?_
    refine ow_iconstW (q := 11) X0 hx (0 : Int32) (hb hby at_10) rfl rfl ?_
    refine ow_istoreNW (q := 12) X0 hx (L' := #[iv p0, iv p1, iv p2, iv (0 : Int32), .unset, .unset, .unset, .unset]) (hb hby at_11) rfl rfl ?_
    refine ow_iloadNW (q := 13) X0 hx (hb hby at_12) rfl rfl ?_
    refine ow_iconstW (q := 14) X0 hx (1 : Int32) (hb hby at_13) rfl rfl ?_
    refine ow_iushrW (q := 15) X0 hx _ (hb hby at_14) rfl rfl ?_
    refine ow_iconstW (q := 16) X0 hx (3 : Int32) (hb hby at_15) rfl rfl ?_
    refine ow_iandW (q := 17) X0 hx _ (hb hby at_16) rfl rfl ?_
    generalize hv_v2 : (((p2.toUInt32 >>> ((1 : Int32) &&& 31).toUInt32).toInt32) &&& (3 : Int32)) = v2
    refine ow_istoreW (q := 19) X0 hx (L' := #[iv p0, iv p1, iv p2, iv (0 : Int32), iv v2, .unset, .unset, .unset]) (hb hby at_17) rfl rfl ?_
    refine ow_iloadNW (q := 20) X0 hx (hb hby at_19) rfl rfl ?_
    refine ow_ifYesW (q := 29) X0 hx (hb hby at_20) (Jvm.Free.XT.i0_eq_t (by decide)) (by decide) (by decide) ?_
    refine ow_iloadW (q := 31) X0 hx (hb hby at_29) rfl rfl ?_
    by_cases hc31_3 : v2 = (0 : Int32)
    · refine ow_ifNoW (q := 34) X0 hx (hb hby at_31) rfl (Jvm.Free.XT.i0_ne_f hc31_3) ?_
      obtain ⟨T4, h4, X4, e4, E4, A4, D4, -, st4⟩ := newO X0 hx hZ hown (ww 60 rfl) (ww 10 rfl) (ww 2 rfl) e0 (g := (mkF m 34 #[iv p0, iv p1, iv p2, iv (0 : Int32), iv v2, .unset, .unset, .unset] [])) rfl (hb hby at_34) (by decide) (by decide)
      obtain ⟨b4, g4⟩ : ∃ z, z = h0.size := ⟨_, rfl⟩
      rw [← g4] at A4 D4 st4
      have ne_xp_b4 : xp ≠ b4 := Nat.ne_of_lt (Nat.lt_of_lt_of_le HF2.lt (Nat.le_of_eq g4.symm))
      have sz_b4 : h0.size ≤ b4 := Nat.le_trans K0.1 (Nat.le_of_eq g4.symm)
      have G_b4 : n0 ≤ b4 := Nat.le_trans Z0 sz_b4
      have K4 : Keep h0 h4 [] := K0.ext E4
      have F5 : Sta Z h4 "java/lang/String" "COMPACT_STRINGS" "Z" (.int zc) := HF0.ext E4
      have F6 : Sta Z h4 "com/example/shapewright/shapewright/testsuite/TestOutcome" "PASSED" "Lcom/example/shapewright/shapewright/testsuite/TestOutcome;" (.ref xp) := HF1.ext E4
      have F7 : Exa Z h4 xp "com/example/shapewright/shapewright/testsuite/TestOutcome" := HF2.ext E4
      have F8 : Fld Z h4 xp "com/example/shapewright/shapewright/testsuite/TestOutcome" "reason" "Ljava/lang/String;" .null := HF3.ext E4
      have F9 : Fld Z h4 b4 "java/lang/String" "value" "[B" .null := D4 (Or.inr (ww 23 rfl)) (ty := (.array .byte)) (by decide)
      have F10 : Fld Z h4 b4 "java/lang/String" "coder" "B" (.int (0 : Int32)) := D4 (Or.inr (ww 25 rfl)) (ty := .byte) (by decide)
      refine ownGoW (T' := T4) (f' := (mkF m 37 #[iv p0, iv p1, iv p2, iv (0 : Int32), iv v2, .unset, .unset, .unset] [(.ref b4)])) (st4) ?_
      refine ow_dupW (q := 38) X4 hx (hb hby at_37) rfl rfl ?_
      refine ow_iconstW (q := 39) X4 hx (0 : Int32) (hb hby at_38) rfl rfl ?_
      obtain ⟨T11, h11, k11, X11, e11, E11, A11, st11⟩ := newP X4 hx hZ (ww 61 rfl) e4 (g := (mkF m 39 #[iv p0, iv p1, iv p2, iv (0 : Int32), iv v2, .unset, .unset, .unset] [(.int (0 : Int32)), (.ref b4), (.ref b4)])) rfl (hb hby at_39) rfl (by decide) (cap := 0) (by decide) (by decide) (by decide) (by decide)
      obtain ⟨b11, g11⟩ : ∃ z, z = h4.size := ⟨_, rfl⟩
      rw [← g11] at A11 st11
      have ne_xp_b11 : xp ≠ b11 := Nat.ne_of_lt (Nat.lt_of_lt_of_le F7.lt (Nat.le_of_eq g11.symm))
      have ne_b4_b11 : b4 ≠ b11 := Nat.ne_of_lt (Nat.lt_of_lt_of_le A4.lt (Nat.le_of_eq g11.symm))
      have sz_b11 : h0.size ≤ b11 := Nat.le_trans K4.1 (Nat.le_of_eq g11.symm)
      have G_b11 : n0 ≤ b11 := Nat.le_trans Z0 sz_b11
      have K11 : Keep h0 h11 [] := K4.ext E11
      have F12 : Sta Z h11 "java/lang/String" "COMPACT_STRINGS" "Z" (.int zc) := F5.ext E11
      have F13 : Sta Z h11 "com/example/shapewright/shapewright/testsuite/TestOutcome" "PASSED" "Lcom/example/shapewright/shapewright/testsuite/TestOutcome;" (.ref xp) := F6.ext E11
      have F14 : Exa Z h11 xp "com/example/shapewright/shapewright/testsuite/TestOutcome" := F7.ext E11
      have F15 : Fld Z h11 xp "com/example/shapewright/shapewright/testsuite/TestOutcome" "reason" "Ljava/lang/String;" .null := F8.ext E11
      have F16 : Exa Z h11 b4 "java/lang/String" := A4.ext E11
      have F17 : Fld Z h11 b4 "java/lang/String" "value" "[B" .null := F9.ext E11
      have F18 : Fld Z h11 b4 "java/lang/String" "coder" "B" (.int (0 : Int32)) := F10.ext E11
      have F19 : ownAI Z h11 b11 .char 0 (fun _ => (0 : Int32)) := ownAI.new A11 (by decide) rfl (by decide)
      refine ownGoW (T' := T11) (f' := (mkF m 41 #[iv p0, iv p1, iv p2, iv (0 : Int32), iv v2, .unset, .unset, .unset] [(.ref b11), (.ref b4), (.ref b4)])) (st11) ?_
      obtain ⟨_, _, ⟨T20, L20, k20, n20⟩, -, X20, hS20, gr20, ⟨Lc20, hQ20, l20, y20, z20⟩, st20⟩ := X11.specialBackS hx (y := (⟨"java/lang/String", "<init>", "([C)V"⟩ : MethodName)) rfl hown (mvT hZ (ww 62 rfl)) (mvT hZ (ww 63 rfl)) (mvT hZ (ww 64 rfl)) (by decide) (backOfX (W := 1) (rm_str0 l Z av0 hw [] b4 b11 (fun _ => (0 : Int32)) h11 n0 (Nat.le_trans Z0 K11.1) F16 F17 F18 F19 G_b4 (Ne.symm ne_b4_b11)) hZ (ww 64 rfl) (ww 2 rfl) (by decide) (by decide) (own_EW hw) (CHv.ext E11 (CHv.ext E4 hCH)) (Safe.ext E11 (CHv.ext E4 hCH) (ownSafeNew g4 hCH E4)) F16.lt) (g := (mkF m 41 #[iv p0, iv p1, iv p2, iv (0 : Int32), iv v2, .unset, .unset, .unset] [(.ref b11), (.ref b4), (.ref b4)])) rfl (by rw [hml]; rfl) (Steps.refl _) (a := b4) (argsL := [(.ref b11)]) (rest := [(.ref b4)]) (lenOf own_pd7 rfl) rfl (by show 2 * 0 + _ ≤ _; exact Nat.le_of_eq rfl) (hb hby at_41) (fun _ _ => ⟨rfl, e11, (by decide : 2 + 2 ≤ _), (by decide : 4 + 4 ≤ _)⟩)
      dsimp only [Pt.U, Pt.locs, Pt.cells, Pt.slots] at X20 l20 y20 z20 st20 hQ20 hS20 gr20
      subst l20 y20 z20
      obtain ⟨t_20, rfl, N20q, Kq20, FP20_0, FP20_1, FP20_2⟩ := hQ20
      have N20 := Fr.app N0 N20q
      have K20 : Keep h0 T20.heap [] := K11.trans Kq20 (allS (Or.inr sz_b4) all0)
      have F21 : Sta Z T20.heap "java/lang/String" "COMPACT_STRINGS" "Z" (.int zc) := ownStaKeep F12 Kq20 (allS (ownNstE F16) all0)
      have F22 : Sta Z T20.heap "com/example/shapewright/shapewright/testsuite/TestOutcome" "PASSED" "Lcom/example/shapewright/shapewright/testsuite/TestOutcome;" (.ref xp) := ownStaKeep F13 Kq20 (allS (ownNstE F16) all0)
      have F23 : Exa Z T20.heap xp "com/example/shapewright/shapewright/testsuite/TestOutcome" := F14.keep Kq20
      have F24 : Fld Z T20.heap xp "com/example/shapewright/shapewright/testsuite/TestOutcome" "reason" "Ljava/lang/String;" .null := F15.keep Kq20 (ninS ne_xp_b4 nin0)
      have F25 : Exa Z T20.heap b4 "java/lang/String" := F16.keep Kq20
      have F26 : ownAI Z T20.heap b11 .char 0 (fun _ => (0 : Int32)) := F19.keep Kq20 (ninS (Ne.symm ne_b4_b11) nin0)
      refine ownRunW (T' := T20) (f' := (mkF m 44 #[iv p0, iv p1, iv p2, iv (0 : Int32), iv v2, .unset, .unset, .unset] [(.ref b4)])) st20 ?_
      refine ownRebaseW hZ hown hS20 X20 ?_
      intro s X20 hZ hown
      refine ow_astoreW (q := 46) X20 hx (L' := #[iv p0, iv p1, iv p2, iv (0 : Int32), iv v2, rv b4, .unset, .unset]) (hb hby at_44) rfl rfl rfl ?_
      refine ow_gotoW (q := 105) X20 hx (hb hby at_46) (by decide) (by decide) ?_
      obtain ⟨T27, h27, X27, e27, E27, A27, D27, -, st27⟩ := newO X20 hx hZ hown (ww 26 rfl) (ww 27 rfl) (ww 28 rfl) rfl (g := (mkF m 105 #[iv p0, iv p1, iv p2, iv (0 : Int32), iv v2, rv b4, .unset, .unset] [])) rfl (hb hby at_105) (by decide) (by decide)
      obtain ⟨b27, g27⟩ : ∃ z, z = T20.heap.size := ⟨_, rfl⟩
      rw [← g27] at A27 D27 st27
      have ne_xp_b27 : xp ≠ b27 := Nat.ne_of_lt (Nat.lt_of_lt_of_le F23.lt (Nat.le_of_eq g27.symm))
      have ne_b4_b27 : b4 ≠ b27 := Nat.ne_of_lt (Nat.lt_of_lt_of_le F25.lt (Nat.le_of_eq g27.symm))
      have ne_b11_b27 : b11 ≠ b27 := Nat.ne_of_lt (Nat.lt_of_lt_of_le F26.lt (Nat.le_of_eq g27.symm))
      have ne_t_20_b27 : t_20 ≠ b27 := Nat.ne_of_lt (Nat.lt_of_lt_of_le FP20_2.lt (Nat.le_of_eq g27.symm))
      have sz_b27 : h0.size ≤ b27 := Nat.le_trans K20.1 (Nat.le_of_eq g27.symm)
      have G_b27 : n0 ≤ b27 := Nat.le_trans Z0 sz_b27
      have K27 : Keep h0 h27 [] := K20.ext E27
      have F28 : Sta Z h27 "java/lang/String" "COMPACT_STRINGS" "Z" (.int zc) := F21.ext E27
      have F29 : Sta Z h27 "com/example/shapewright/shapewright/testsuite/TestOutcome" "PASSED" "Lcom/example/shapewright/shapewright/testsuite/TestOutcome;" (.ref xp) := F22.ext E27
      have F30 : Exa Z h27 xp "com/example/shapewright/shapewright/testsuite/TestOutcome" := F23.ext E27
      have F31 : Fld Z h27 xp "com/example/shapewright/shapewright/testsuite/TestOutcome" "reason" "Ljava/lang/String;" .null := F24.ext E27
      have F32 : Exa Z h27 b4 "java/lang/String" := F25.ext E27
      have F33 : ownAI Z h27 b11 .char 0 (fun _ => (0 : Int32)) := F26.ext E27
      have F34 : Fld Z h27 b4 "java/lang/String" "coder" "B" (.int (0 : Int32)) := FP20_0.ext E27
      have F35 : Fld Z h27 b4 "java/lang/String" "value" "[B" (.ref t_20) := FP20_1.ext E27
      have F36 : ownAI Z h27 t_20 .byte 0 (fun _ => (0 : Int32)) := FP20_2.ext E27
      have F37 : Fld Z h27 b27 "com/example/shapewright/shapewright/testsuite/TestOutcome" "reason" "Ljava/lang/String;" .null := D27 (Or.inr (ww 39 rfl)) (ty := (.object "java/lang/String")) (by decide)
      refine ownGoW (T' := T27) (f' := (mkF m 108 #[iv p0, iv p1, iv p2, iv (0 : Int32), iv v2, rv b4, .unset, .unset] [(.ref b27)])) (st27) ?_
      refine ow_dupW (q := 109) X27 hx (hb hby at_108) rfl rfl ?_
      refine ow_aloadW (q := 111) X27 hx (hb hby at_109) rfl rfl rfl ?_
      obtain ⟨_, _, ⟨T38, L38, k38, n38⟩, -, X38, ⟨Lc38, hQ38, l38, y38, z38⟩, st38⟩ := X27.specialBack hx (y := (⟨"com/example/shapewright/shapewright/testsuite/TestOutcome", "<init>", "(Ljava/lang/String;)V"⟩ : MethodName)) rfl hown (mvT hZ (ww 29 rfl)) (mvT hZ (ww 30 rfl)) (mvT hZ (ww 31 rfl)) (by decide) (backOf (W := 1) (rm_toR l Z av0 hw [] b27 b4 h27 n0 (Nat.le_trans Z0 K27.1) A27 F37 G_b27) hZ (ww 31 rfl) (ww 28 rfl) (by decide) (by decide)) (g := (mkF m 111 #[iv p0, iv p1, iv p2, iv (0 : Int32), iv v2, rv b4, .unset, .unset] [(.ref b4), (.ref b27), (.ref b27)])) rfl (by rw [hml]; rfl) (Steps.refl _) (a := b27) (argsL := [(.ref b4)]) (rest := [(.ref b27)]) (lenOf own_pd6 rfl) rfl (by show 2 * 0 + _ ≤ _; exact Nat.le_of_eq rfl) (hb hby at_111) (fun _ _ => ⟨rfl, e27, (by decide : 5 + 0 ≤ _), (by decide : 9 + 0 ≤ _)⟩)
      dsimp only [Pt.U, Pt.locs, Pt.cells, Pt.slots] at X38 l38 y38 z38 st38 hQ38
      subst l38 y38 z38
      obtain ⟨rfl, N38q, Kq38, FP38_0⟩ := hQ38
      have N38 := Fr.app N20 N38q
      have K38 : Keep h0 T38.heap [] := K27.trans Kq38 (allS (Or.inr sz_b27) all0)
      have F39 : Sta Z T38.heap "java/lang/String" "COMPACT_STRINGS" "Z" (.int zc) := ownStaKeep F28 Kq38 (allS (ownNstE A27) all0)
      have F40 : Sta Z T38.heap "com/example/shapewright/shapewright/testsuite/TestOutcome" "PASSED" "Lcom/example/shapewright/shapewright/testsuite/TestOutcome;" (.ref xp) := ownStaKeep F29 Kq38 (allS (ownNstE A27) all0)
      have F41 : Exa Z T38.heap xp "com/example/shapewright/shapewright/testsuite/TestOutcome" := F30.keep Kq38
      have F42 : Fld Z T38.heap xp "com/example/shapewright/shapewright/testsuite/TestOutcome" "reason" "Ljava/lang/String;" .null := F31.keep Kq38 (ninS ne_xp_b27 nin0)
      have F43 : Exa Z T38.heap b4 "java/lang/String" := F32.keep Kq38
      have F44 : ownAI Z T38.heap b11 .char 0 (fun _ => (0 : Int32)) := F33.keep Kq38 (ninS ne_b11_b27 nin0)
      have F45 : Fld Z T38.heap b4 "java/lang/String" "coder" "B" (.int (0 : Int32)) := F34.keep Kq38 (ninS ne_b4_b27 nin0)
      have F46 : Fld Z T38.heap b4 "java/lang/String" "value" "[B" (.ref t_20) := F35.keep Kq38 (ninS ne_b4_b27 nin0)
      have F47 : ownAI Z T38.heap t_20 .byte 0 (fun _ => (0 : Int32)) := F36.keep Kq38 (ninS ne_t_20_b27 nin0)
      have F48 : Exa Z T38.heap b27 "com/example/shapewright/shapewright/testsuite/TestOutcome" := A27.keep Kq38
      refine ownRunW (T' := T38) (f' := (mkF m 114 #[iv p0, iv p1, iv p2, iv (0 : Int32), iv v2, rv b4, .unset, .unset] [(.ref b27)])) st38 ?_
      refine ow_astoreW (q := 116) X38 hx (L' := #[iv p0, iv p1, iv p2, iv (0 : Int32), iv v2, rv b4, rv b27, .unset]) (hb hby at_114) rfl rfl rfl ?_
      refine ow_aloadW (q := 118) X38 hx (hb hby at_116) rfl rfl rfl ?_
      obtain ⟨cq49, kq49, q49a, q49b, q49c⟩ := isOf hZ rfl F48
      obtain ⟨_, _, ⟨T49, L49, k49, n49⟩, -, X49, ⟨Lc49, hQ49, l49, y49, z49⟩, st49⟩ := X38.virtualBack hx (y := (⟨"com/example/shapewright/shapewright/testsuite/TestOutcome", "passed", "()Z"⟩ : MethodName)) (z := (⟨"com/example/shapewright/shapewright/testsuite/TestOutcome", "passed", "()Z"⟩ : MethodName)) hown (mvT hZ (ww 40 rfl)) (mvT hZ (ww 41 rfl)) (notFace_of_selects (args := #[]) (mvT hZ (ww 43 rfl))) (mvT hZ (ww 43 rfl)) (mvT hZ (ww 42 rfl)) (by decide) (backOf (W := 0) (rm_paR l Z av0 hw [] b27 b4 T38.heap n0 (Nat.le_trans Z0 K38.1) FP38_0) hZ (ww 44 rfl) (ww 28 rfl) (by decide) (by decide)) q49a q49c (g := (mkF m 118 #[iv p0, iv p1, iv p2, iv (0 : Int32), iv v2, rv b4, rv b27, .unset] [(.ref b27)])) rfl (by rw [hml]; rfl) (Steps.refl _) (argsL := []) (rest := []) (lenOf own_pd8 rfl) rfl (by show 2 * 0 + _ ≤ _; exact Nat.le_of_eq rfl) (hb hby at_118) (fun _ _ => ⟨rfl, rfl, (by decide : 5 + 0 ≤ _), (by decide : 9 + 0 ≤ _)⟩)
      dsimp only [Pt.U, Pt.locs, Pt.cells, Pt.slots] at X49 l49 y49 z49 st49 hQ49
      subst l49 y49 z49
      obtain ⟨rfl, N49q, e49⟩ := hQ49
      have N49 := Fr.app N38 N49q
      refine ownRunW (T' := T49) (f' := (mkF m 121 #[iv p0, iv p1, iv p2, iv (0 : Int32), iv v2, rv b4, rv b27, .unset] [(.int (0 : Int32))])) st49 ?_
      refine ow_iloadNW (q := 122) X49 hx (hb hby at_121) rfl rfl ?_
      refine ow_icmpNoW (q := 125) X49 hx (hb hby at_122) rfl (Jvm.Free.XT.ii_ne_f (by decide)) ?_
      refine ow_iconstW (q := 126) X49 hx (1 : Int32) (hb hby at_125) rfl rfl ?_
      refine ow_gotoW (q := 130) X49 hx (hb hby at_126) (by decide) (by decide) ?_
      refine ow_istoreW (q := 132) X49 hx (L' := #[iv p0, iv p1, iv p2, iv (0 : Int32), iv v2, rv b4, rv b27, iv (1 : Int32)]) (hb hby at_130) rfl rfl ?_
      refine ow_iloadNW (q := 133) X49 hx (hb hby at_132) rfl rfl ?_
      refine ow_ifYesW (q := 160) X49 hx (hb hby at_133) (Jvm.Free.XT.i0_eq_t (by decide)) (by decide) (by decide) ?_
      refine ow_iloadW (q := 162) X49 hx (hb hby at_160) rfl rfl ?_
      refine ow_ifNoW (q := 165) X49 hx (hb hby at_162) rfl (Jvm.Free.XT.i0_eq_f (by decide)) ?_
      refine ow_aloadW (q := 167) X49 hx (hb hby at_165) rfl rfl rfl ?_
      obtain ⟨_, _, ⟨T50, L50, k50, n50⟩, -, X50, hS50, gr50, ⟨Lc50, hQ50, l50, y50, z50⟩, st50⟩ := callSW X49 hx (y := (⟨"com/example/shapewright/shapewright/testsuite/TestOutcome", "failed", "(Ljava/lang/String;)Lcom/example/shapewright/shapewright/testsuite/TestOutcome;"⟩ : MethodName)) hown (mvT hZ (ww 45 rfl)) (mvT hZ (ww 46 rfl)) (mvT hZ (ww 28 rfl)) (mvT hZ (ww 47 rfl)) (by decide) (backOfW (W := 0) (rm_failed l Z av0 hw [] b4 T38.heap n0 (Nat.le_trans Z0 K38.1) F43) hZ (ww 47 rfl) (ww 28 rfl) (by decide) (by decide)) (g := (mkF m 167 #[iv p0, iv p1, iv p2, iv (0 : Int32), iv v2, rv b4, rv b27, iv (1 : Int32)] [(.ref b4)])) rfl (by rw [hml]; rfl) (argsL := [(.ref b4)]) (rest := []) (lenOf own_pd9 rfl) rfl (by show 2 * 0 + _ ≤ _; exact Nat.le_of_eq rfl) (hb hby at_167) (fun _ _ => ⟨rfl, e49, (by decide : 5 + 3 ≤ _), (by decide : 9 + 29 ≤ _)⟩)
      dsimp only [Pt.U, Pt.locs, Pt.cells, Pt.slots] at X50 l50 y50 z50 st50 hQ50 hS50 gr50
      subst l50 y50 z50
      obtain ⟨b50, rfl, N50q, Kq50, sq50_b50, FP50_0, FP50_1⟩ := hQ50
      have N50 := Fr.app N49 N50q
      have K50 : Keep h0 T50.heap [] := K38.trans Kq50 all0
      have ne_xp_b50 : xp ≠ b50 := Nat.ne_of_lt (Nat.lt_of_lt_of_le F41.lt sq50_b50)
      have ne_b4_b50 : b4 ≠ b50 := Nat.ne_of_lt (Nat.lt_of_lt_of_le F43.lt sq50_b50)
      have ne_b11_b50 : b11 ≠ b50 := Nat.ne_of_lt (Nat.lt_of_lt_of_le F44.lt sq50_b50)
      have ne_t_20_b50 : t_20 ≠ b50 := Nat.ne_of_lt (Nat.lt_of_lt_of_le F47.lt sq50_b50)
      have ne_b27_b50 : b27 ≠ b50 := Nat.ne_of_lt (Nat.lt_of_lt_of_le F48.lt sq50_b50)
      have sz_b50 : h0.size ≤ b50 := Nat.le_trans K38.1 sq50_b50
      have G_b50 : n0 ≤ b50 := Nat.le_trans Z0 sz_b50
      have F51 : Sta Z T50.heap "java/lang/String" "COMPACT_STRINGS" "Z" (.int zc) := ownStaKeep F39 Kq50 all0
      have F52 : Sta Z T50.heap "com/example/shapewright/shapewright/testsuite/TestOutcome" "PASSED" "Lcom/example/shapewright/shapewright/testsuite/TestOutcome;" (.ref xp) := ownStaKeep F40 Kq50 all0
      have F53 : Exa Z T50.heap xp "com/example/shapewright/shapewright/testsuite/TestOutcome" := F41.keep Kq50
      have F54 : Fld Z T50.heap xp "com/example/shapewright/shapewright/testsuite/TestOutcome" "reason" "Ljava/lang/String;" .null := F42.keep Kq50 nin0
      have F55 : Exa Z T50.heap b4 "java/lang/String" := F43.keep Kq50
      have F56 : ownAI Z T50.heap b11 .char 0 (fun _ => (0 : Int32)) := F44.keep Kq50 nin0
      have F57 : Fld Z T50.heap b4 "java/lang/String" "coder" "B" (.int (0 : Int32)) := F45.keep Kq50 nin0
      have F58 : Fld Z T50.heap b4 "java/lang/String" "value" "[B" (.ref t_20) := F46.keep Kq50 nin0
      have F59 : ownAI Z T50.heap t_20 .byte 0 (fun _ => (0 : Int32)) := F47.keep Kq50 nin0
      have F60 : Exa Z T50.heap b27 "com/example/shapewright/shapewright/testsuite/TestOutcome" := F48.keep Kq50
      have F61 : Fld Z T50.heap b27 "com/example/shapewright/shapewright/testsuite/TestOutcome" "reason" "Ljava/lang/String;" (.ref b4) := FP38_0.keep Kq50 nin0
      refine ownRunW (T' := T50) (f' := (mkF m 170 #[iv p0, iv p1, iv p2, iv (0 : Int32), iv v2, rv b4, rv b27, iv (1 : Int32)] [(.ref b50)])) st50 ?_
      refine ownRebaseW hZ hown hS50 X50 ?_
      intro s X50 hZ hown
      obtain ⟨cq62, kq62, q62a, q62b, q62c⟩ := isOf hZ rfl FP50_0
      obtain ⟨_, _, ⟨T62, L62, k62, n62⟩, -, X62, ⟨Lc62, hQ62, l62, y62, z62⟩, st62⟩ := X50.virtualBack hx (y := (⟨"com/example/shapewright/shapewright/testsuite/TestOutcome", "passed", "()Z"⟩ : MethodName)) (z := (⟨"com/example/shapewright/shapewright/testsuite/TestOutcome", "passed", "()Z"⟩ : MethodName)) hown (mvT hZ (ww 40 rfl)) (mvT hZ (ww 41 rfl)) (notFace_of_selects (args := #[]) (mvT hZ (ww 43 rfl))) (mvT hZ (ww 43 rfl)) (mvT hZ (ww 42 rfl)) (by decide) (backOf (W := 0) (rm_paR l Z av0 hw [] b50 b4 T50.heap n0 (Nat.le_trans Z0 K50.1) FP50_1) hZ (ww 44 rfl) (ww 28 rfl) (by decide) (by decide)) q62a q62c (g := (mkF m 170 #[iv p0, iv p1, iv p2, iv (0 : Int32), iv v2, rv b4, rv b27, iv (1 : Int32)] [(.ref b50)])) rfl (by rw [hml]; rfl) (Steps.refl _) (argsL := []) (rest := []) (lenOf own_pd8 rfl) rfl (by show 2 * 0 + _ ≤ _; exact Nat.le_of_eq rfl) (hb hby at_170) (fun _ _ => ⟨rfl, rfl, (by decide : 8 + 0 ≤ _), (by decide : 38 + 0 ≤ _)⟩)
      dsimp only [Pt.U, Pt.locs, Pt.cells, Pt.slots] at X62 l62 y62 z62 st62 hQ62
      subst l62 y62 z62
      obtain ⟨rfl, N62q, e62⟩ := hQ62
      have N62 := Fr.app N50 N62q
      refine ownRunW (T' := T62) (f' := (mkF m 173 #[iv p0, iv p1, iv p2, iv (0 : Int32), iv v2, rv b4, rv b27, iv (1 : Int32)] [(.int (0 : Int32))])) st62 ?_
      refine ow_ifNoW (q := 176) X62 hx (hb hby at_173) rfl (Jvm.Free.XT.i0_ne_f (by decide)) ?_
      refine ow_iconstW (q := 177) X62 hx (1 : Int32) (hb hby at_176) rfl rfl ?_
      refine ow_gotoW (q := 181) X62 hx (hb hby at_177) (by decide) (by decide) ?_
      refine ow_istoreW (q := 183) X62 hx (L' := #[iv p0, iv p1, iv p2, iv (0 : Int32), iv v2, rv b4, rv b27, iv (1 : Int32)]) (hb hby at_181) rfl rfl ?_
      refine ow_iloadW (q := 185) X62 hx (hb hby at_183) rfl rfl ?_
      refine ownRetNW X62 hx (r := (1 : Int32)) (Or.inl rfl) Bd.returns (hb hby at_185) hlk (by decide) (by decide) (by decide) ?_
      refine ⟨?_, (by rw [e62]; exact Nat.le_refl _)⟩
      refine ⟨?_, (by rw [e62]; exact (Nat.le_trans (Nat.le_trans E27.1 Kq38.1) Kq50.1))⟩
      exact ⟨rfl, N62⟩
    · refine ow_ifYesW (q := 49) X0 hx (hb hby at_31) (Jvm.Free.XT.i0_ne_t hc31_3) (by decide) (by decide) ?_
      refine ow_iloadW (q := 51) X0 hx (hb hby at_49) rfl rfl ?_
      refine ow_iconstW (q := 52) X0 hx (1 : Int32) (hb hby at_51) rfl rfl ?_
      by_cases hc52_63 : v2 = (1 : Int32)
      · refine ow_icmpNoW (q := 55) X0 hx (hb hby at_52) rfl (Jvm.Free.XT.ii_ne_f hc52_63) ?_
        refine ow_iloadNW (q := 56) X0 hx (hb hby at_55) rfl rfl ?_
        refine ow_sipushW (q := 59) X0 hx (255 : Int32) (hb hby at_56) rfl rfl ?_
        refine ow_iandW (q := 60) X0 hx _ (hb hby at_59) rfl rfl ?_
        refine ow_i2cW (q := 61) X0 hx _ (hb hby at_60) rfl rfl ?_
        generalize hv_v64 : ((p0 &&& (255 : Int32)).toUInt32.toUInt16.toUInt32.toInt32) = v64
        obtain ⟨_, _, ⟨T65, L65, k65, n65⟩, -, X65, ⟨Lc65, hQ65, l65, y65, z65⟩, st65⟩ := Jvm.LawKit.callS X0 hx (y := (⟨"java/lang/String", "valueOf", "(C)Ljava/lang/String;"⟩ : MethodName)) hown (mvT hZ (ww 0 rfl)) (mvT hZ (ww 1 rfl)) (mvT hZ (ww 2 rfl)) (mvT hZ (ww 3 rfl)) (by decide) (backOf (W := 0) (rm_valueOf l Z av0 hw [] v64 zc h0 n0 (Nat.le_trans Z0 K0.1) HF0 hz (own_a255 hv_v64).2) hZ (ww 3 rfl) (ww 2 rfl) (by decide) (by decide)) (g := (mkF m 61 #[iv p0, iv p1, iv p2, iv (0 : Int32), iv v2, .unset, .unset, .unset] [(.int v64)])) rfl (by rw [hml]; rfl) (argsL := [(.int v64)]) (rest := []) (lenOf own_pd10 rfl) rfl (by show 2 * 0 + _ ≤ _; exact Nat.le_of_eq rfl) (hb hby at_61) (fun _ _ => ⟨rfl, e0, (by decide : 0 + 2 ≤ _), (by decide : 0 + 5 ≤ _)⟩)
        dsimp only [Pt.U, Pt.locs, Pt.cells, Pt.slots] at X65 l65 y65 z65 st65 hQ65
        subst l65 y65 z65
        obtain ⟨b65, rfl, N65q, Kq65, sq65_b65, FP65_0⟩ := hQ65
        have N65 := Fr.app N0 N65q
        have K65 : Keep h0 T65.heap [] := K0.trans Kq65 all0
        have ne_xp_b65 : xp ≠ b65 := Nat.ne_of_lt (Nat.lt_of_lt_of_le HF2.lt sq65_b65)
        have sz_b65 : h0.size ≤ b65 := Nat.le_trans K0.1 sq65_b65
        have G_b65 : n0 ≤ b65 := Nat.le_trans Z0 sz_b65
        have F66 : Sta Z T65.heap "java/lang/String" "COMPACT_STRINGS" "Z" (.int zc) := ownStaKeep HF0 Kq65 all0
        have F67 : Sta Z T65.heap "com/example/shapewright/shapewright/testsuite/TestOutcome" "PASSED" "Lcom/example/shapewright/shapewright/testsuite/TestOutcome;" (.ref xp) := ownStaKeep HF1 Kq65 all0
        have F68 : Exa Z T65.heap xp "com/example/shapewright/shapewright/testsuite/TestOutcome" := HF2.keep Kq65
        have F69 : Fld Z T65.heap xp "com/example/shapewright/shapewright/testsuite/TestOutcome" "reason" "Ljava/lang/String;" .null := HF3.keep Kq65 nin0
        refine ownGoW (T' := T65) (f' := (mkF m 64 #[iv p0, iv p1, iv p2, iv (0 : Int32), iv v2, .unset, .unset, .unset] [(.ref b65)])) (st65) ?_
        refine ow_astoreW (q := 66) X65 hx (L' := #[iv p0, iv p1, iv p2, iv (0 : Int32), iv v2, rv b65, .unset, .unset]) (hb hby at_64) rfl rfl rfl ?_
        refine ow_gotoW (q := 105) X65 hx (hb hby at_66) (by decide) (by decide) ?_
        obtain ⟨T70, h70, X70, e70, E70, A70, D70, -, st70⟩ := newO X65 hx hZ hown (ww 26 rfl) (ww 27 rfl) (ww 28 rfl) rfl (g := (mkF m 105 #[iv p0, iv p1, iv p2, iv (0 : Int32), iv v2, rv b65, .unset, .unset] [])) rfl (hb hby at_105) (by decide) (by decide)
        obtain ⟨b70, g70⟩ : ∃ z, z = T65.heap.size := ⟨_, rfl⟩
        rw [← g70] at A70 D70 st70
        have ne_xp_b70 : xp ≠ b70 := Nat.ne_of_lt (Nat.lt_of_lt_of_le F68.lt (Nat.le_of_eq g70.symm))
        have ne_b65_b70 : b65 ≠ b70 := Nat.ne_of_lt (Nat.lt_of_lt_of_le FP65_0.lt (Nat.le_of_eq g70.symm))
        have sz_b70 : h0.size ≤ b70 := Nat.le_trans K65.1 (Nat.le_of_eq g70.symm)
        have G_b70 : n0 ≤ b70 := Nat.le_trans Z0 sz_b70
        have K70 : Keep h0 h70 [] := K65.ext E70
        have F71 : Sta Z h70 "java/lang/String" "COMPACT_STRINGS" "Z" (.int zc) := F66.ext E70
        have F72 : Sta Z h70 "com/example/shapewright/shapewright/testsuite/TestOutcome" "PASSED" "Lcom/example/shapewright/shapewright/testsuite/TestOutcome;" (.ref xp) := F67.ext E70
        have F73 : Exa Z h70 xp "com/example/shapewright/shapewright/testsuite/TestOutcome" := F68.ext E70
        have F74 : Fld Z h70 xp "com/example/shapewright/shapewright/testsuite/TestOutcome" "reason" "Ljava/lang/String;" .null := F69.ext E70
        have F75 : Exa Z h70 b65 "java/lang/String" := FP65_0.ext E70
        have F76 : Fld Z h70 b70 "com/example/shapewright/shapewright/testsuite/TestOutcome" "reason" "Ljava/lang/String;" .null := D70 (Or.inr (ww 39 rfl)) (ty := (.object "java/lang/String")) (by decide)
        refine ownGoW (T' := T70) (f' := (mkF m 108 #[iv p0, iv p1, iv p2, iv (0 : Int32), iv v2, rv b65, .unset, .unset] [(.ref b70)])) (st70) ?_
        refine ow_dupW (q := 109) X70 hx (hb hby at_108) rfl rfl ?_
        refine ow_aloadW (q := 111) X70 hx (hb hby at_109) rfl rfl rfl ?_
        obtain ⟨_, _, ⟨T77, L77, k77, n77⟩, -, X77, ⟨Lc77, hQ77, l77, y77, z77⟩, st77⟩ := X70.specialBack hx (y := (⟨"com/example/shapewright/shapewright/testsuite/TestOutcome", "<init>", "(Ljava/lang/String;)V"⟩ : MethodName)) rfl hown (mvT hZ (ww 29 rfl)) (mvT hZ (ww 30 rfl)) (mvT hZ (ww 31 rfl)) (by decide) (backOf (W := 1) (rm_toR l Z av0 hw [] b70 b65 h70 n0 (Nat.le_trans Z0 K70.1) A70 F76 G_b70) hZ (ww 31 rfl) (ww 28 rfl) (by decide) (by decide)) (g := (mkF m 111 #[iv p0, iv p1, iv p2, iv (0 : Int32), iv v2, rv b65, .unset, .unset] [(.ref b65), (.ref b70), (.ref b70)])) rfl (by rw [hml]; rfl) (Steps.refl _) (a := b70) (argsL := [(.ref b65)]) (rest := [(.ref b70)]) (lenOf own_pd6 rfl) rfl (by show 2 * 0 + _ ≤ _; exact Nat.le_of_eq rfl) (hb hby at_111) (fun _ _ => ⟨rfl, e70, (by decide : 3 + 0 ≤ _), (by decide : 6 + 0 ≤ _)⟩)
        dsimp only [Pt.U, Pt.locs, Pt.cells, Pt.slots] at X77 l77 y77 z77 st77 hQ77
        subst l77 y77 z77
        obtain ⟨rfl, N77q, Kq77, FP77_0⟩ := hQ77
        have N77 := Fr.app N65 N77q
        have K77 : Keep h0 T77.heap [] := K70.trans Kq77 (allS (Or.inr sz_b70) all0)
        have F78 : Sta Z T77.heap "java/lang/String" "COMPACT_STRINGS" "Z" (.int zc) := ownStaKeep F71 Kq77 (allS (ownNstE A70) all0)
        have F79 : Sta Z T77.heap "com/example/shapewright/shapewright/testsuite/TestOutcome" "PASSED" "Lcom/example/shapewright/shapewright/testsuite/TestOutcome;" (.ref xp) := ownStaKeep F72 Kq77 (allS (ownNstE A70) all0)
        have F80 : Exa Z T77.heap xp "com/example/shapewright/shapewright/testsuite/TestOutcome" := F73.keep Kq77
        have F81 : Fld Z T77.heap xp "com/example/shapewright/shapewright/testsuite/TestOutcome" "reason" "Ljava/lang/String;" .null := F74.keep Kq77 (ninS ne_xp_b70 nin0)
        have F82 : Exa Z T77.heap b65 "java/lang/String" := F75.keep Kq77
        have F83 : Exa Z T77.heap b70 "com/example/shapewright/shapewright/testsuite/TestOutcome" := A70.keep Kq77
        refine ownRunW (T' := T77) (f' := (mkF m 114 #[iv p0, iv p1, iv p2, iv (0 : Int32), iv v2, rv b65, .unset, .unset] [(.ref b70)])) st77 ?_
        refine ow_astoreW (q := 116) X77 hx (L' := #[iv p0, iv p1, iv p2, iv (0 : Int32), iv v2, rv b65, rv b70, .unset]) (hb hby at_114) rfl rfl rfl ?_
        refine ow_aloadW (q := 118) X77 hx (hb hby at_116) rfl rfl rfl ?_
        obtain ⟨cq84, kq84, q84a, q84b, q84c⟩ := isOf hZ rfl F83
        obtain ⟨_, _, ⟨T84, L84, k84, n84⟩, -, X84, ⟨Lc84, hQ84, l84, y84, z84⟩, st84⟩ := X77.virtualBack hx (y := (⟨"com/example/shapewright/shapewright/testsuite/TestOutcome", "passed", "()Z"⟩ : MethodName)) (z := (⟨"com/example/shapewright/shapewright/testsuite/TestOutcome", "passed", "()Z"⟩ : MethodName)) hown (mvT hZ (ww 40 rfl)) (mvT hZ (ww 41 rfl)) (notFace_of_selects (args := #[]) (mvT hZ (ww 43 rfl))) (mvT hZ (ww 43 rfl)) (mvT hZ (ww 42 rfl)) (by decide) (backOf (W := 0) (rm_paR l Z av0 hw [] b70 b65 T77.heap n0 (Nat.le_trans Z0 K77.1) FP77_0) hZ (ww 44 rfl) (ww 28 rfl) (by decide) (by decide)) q84a q84c (g := (mkF m 118 #[iv p0, iv p1, iv p2, iv (0 : Int32), iv v2, rv b65, rv b70, .unset] [(.ref b70)])) rfl (by rw [hml]; rfl) (Steps.refl _) (argsL := []) (rest := []) (lenOf own_pd8 rfl) rfl (by show 2 * 0 + _ ≤ _; exact Nat.le_of_eq rfl) (hb hby at_118) (fun _ _ => ⟨rfl, rfl, (by decide : 3 + 0 ≤ _), (by decide : 6 + 0 ≤ _)⟩)
        dsimp only [Pt.U, Pt.locs, Pt.cells, Pt.slots] at X84 l84 y84 z84 st84 hQ84
        subst l84 y84 z84
        obtain ⟨rfl, N84q, e84⟩ := hQ84
        have N84 := Fr.app N77 N84q
        refine ownRunW (T' := T84) (f' := (mkF m 121 #[iv p0, iv p1, iv p2, iv (0 : Int32), iv v2, rv b65, rv b70, .unset] [(.int (0 : Int32))])) st84 ?_
        refine ow_iloadNW (q := 122) X84 hx (hb hby at_121) rfl rfl ?_
        refine ow_icmpNoW (q := 125) X84 hx (hb hby at_122) rfl (Jvm.Free.XT.ii_ne_f (by decide)) ?_
        refine ow_iconstW (q := 126) X84 hx (1 : Int32) (hb hby at_125) rfl rfl ?_
        refine ow_gotoW (q := 130) X84 hx (hb hby at_126) (by decide) (by decide) ?_
        refine ow_istoreW (q := 132) X84 hx (L' := #[iv p0, iv p1, iv p2, iv (0 : Int32), iv v2, rv b65, rv b70, iv (1 : Int32)]) (hb hby at_130) rfl rfl ?_
        refine ow_iloadNW (q := 133) X84 hx (hb hby at_132) rfl rfl ?_
        refine ow_ifYesW (q := 160) X84 hx (hb hby at_133) (Jvm.Free.XT.i0_eq_t (by decide)) (by decide) (by decide) ?_
        refine ow_iloadW (q := 162) X84 hx (hb hby at_160) rfl rfl ?_
        refine ow_ifNoW (q := 165) X84 hx (hb hby at_162) rfl (Jvm.Free.XT.i0_eq_f (by decide)) ?_
        refine ow_aloadW (q := 167) X84 hx (hb hby at_165) rfl rfl rfl ?_
        obtain ⟨_, _, ⟨T85, L85, k85, n85⟩, -, X85, hS85, gr85, ⟨Lc85, hQ85, l85, y85, z85⟩, st85⟩ := callSW X84 hx (y := (⟨"com/example/shapewright/shapewright/testsuite/TestOutcome", "failed", "(Ljava/lang/String;)Lcom/example/shapewright/shapewright/testsuite/TestOutcome;"⟩ : MethodName)) hown (mvT hZ (ww 45 rfl)) (mvT hZ (ww 46 rfl)) (mvT hZ (ww 28 rfl)) (mvT hZ (ww 47 rfl)) (by decide) (backOfW (W := 0) (rm_failed l Z av0 hw [] b65 T77.heap n0 (Nat.le_trans Z0 K77.1) F82) hZ (ww 47 rfl) (ww 28 rfl) (by decide) (by decide)) (g := (mkF m 167 #[iv p0, iv p1, iv p2, iv (0 : Int32), iv v2, rv b65, rv b70, iv (1 : Int32)] [(.ref b65)])) rfl (by rw [hml]; rfl) (argsL := [(.ref b65)]) (rest := []) (lenOf own_pd9 rfl) rfl (by show 2 * 0 + _ ≤ _; exact Nat.le_of_eq rfl) (hb hby at_167) (fun _ _ => ⟨rfl, e84, (by decide : 3 + 3 ≤ _), (by decide : 6 + 29 ≤ _)⟩)
        dsimp only [Pt.U, Pt.locs, Pt.cells, Pt.slots] at X85 l85 y85 z85 st85 hQ85 hS85 gr85
        subst l85 y85 z85
        obtain ⟨b85, rfl, N85q, Kq85, sq85_b85, FP85_0, FP85_1⟩ := hQ85
        have N85 := Fr.app N84 N85q
        have K85 : Keep h0 T85.heap [] := K77.trans Kq85 all0
        have ne_xp_b85 : xp ≠ b85 := Nat.ne_of_lt (Nat.lt_of_lt_of_le F80.lt sq85_b85)
        have ne_b65_b85 : b65 ≠ b85 := Nat.ne_of_lt (Nat.lt_of_lt_of_le F82.lt sq85_b85)
        have ne_b70_b85 : b70 ≠ b85 := Nat.ne_of_lt (Nat.lt_of_lt_of_le F83.lt sq85_b85)
        have sz_b85 : h0.size ≤ b85 := Nat.le_trans K77.1 sq85_b85
        have G_b85 : n0 ≤ b85 := Nat.le_trans Z0 sz_b85
        have F86 : Sta Z T85.heap "java/lang/String" "COMPACT_STRINGS" "Z" (.int zc) := ownStaKeep F78 Kq85 all0
        have F87 : Sta Z T85.heap "com/example/shapewright/shapewright/testsuite/TestOutcome" "PASSED" "Lcom/example/shapewright/shapewright/testsuite/TestOutcome;" (.ref xp) := ownStaKeep F79 Kq85 all0
        have F88 : Exa Z T85.heap xp "com/example/shapewright/shapewright/testsuite/TestOutcome" := F80.keep Kq85
        have F89 : Fld Z T85.heap xp "com/example/shapewright/shapewright/testsuite/TestOutcome" "reason" "Ljava/lang/String;" .null := F81.keep Kq85 nin0
        have F90 : Exa Z T85.heap b65 "java/lang/String" := F82.keep Kq85
        have F91 : Exa Z T85.heap b70 "com/example/shapewright/shapewright/testsuite/TestOutcome" := F83.keep Kq85
        have F92 : Fld Z T85.heap b70 "com/example/shapewright/shapewright/testsuite/TestOutcome" "reason" "Ljava/lang/String;" (.ref b65) := FP77_0.keep Kq85 nin0
        refine ownRunW (T' := T85) (f' := (mkF m 170 #[iv p0, iv p1, iv p2, iv (0 : Int32), iv v2, rv b65, rv b70, iv (1 : Int32)] [(.ref b85)])) st85 ?_
        refine ownRebaseW hZ hown hS85 X85 ?_
        intro s X85 hZ hown
        obtain ⟨cq93, kq93, q93a, q93b, q93c⟩ := isOf hZ rfl FP85_0
        obtain ⟨_, _, ⟨T93, L93, k93, n93⟩, -, X93, ⟨Lc93, hQ93, l93, y93, z93⟩, st93⟩ := X85.virtualBack hx (y := (⟨"com/example/shapewright/shapewright/testsuite/TestOutcome", "passed", "()Z"⟩ : MethodName)) (z := (⟨"com/example/shapewright/shapewright/testsuite/TestOutcome", "passed", "()Z"⟩ : MethodName)) hown (mvT hZ (ww 40 rfl)) (mvT hZ (ww 41 rfl)) (notFace_of_selects (args := #[]) (mvT hZ (ww 43 rfl))) (mvT hZ (ww 43 rfl)) (mvT hZ (ww 42 rfl)) (by decide) (backOf (W := 0) (rm_paR l Z av0 hw [] b85 b65 T85.heap n0 (Nat.le_trans Z0 K85.1) FP85_1) hZ (ww 44 rfl) (ww 28 rfl) (by decide) (by decide)) q93a q93c (g := (mkF m 170 #[iv p0, iv p1, iv p2, iv (0 : Int32), iv v2, rv b65, rv b70, iv (1 : Int32)] [(.ref b85)])) rfl (by rw [hml]; rfl) (Steps.refl _) (argsL := []) (rest := []) (lenOf own_pd8 rfl) rfl (by show 2 * 0 + _ ≤ _; exact Nat.le_of_eq rfl) (hb hby at_170) (fun _ _ => ⟨rfl, rfl, (by decide : 6 + 0 ≤ _), (by decide : 35 + 0 ≤ _)⟩)
        dsimp only [Pt.U, Pt.locs, Pt.cells, Pt.slots] at X93 l93 y93 z93 st93 hQ93
        subst l93 y93 z93
        obtain ⟨rfl, N93q, e93⟩ := hQ93
        have N93 := Fr.app N85 N93q
        refine ownRunW (T' := T93) (f' := (mkF m 173 #[iv p0, iv p1, iv p2, iv (0 : Int32), iv v2, rv b65, rv b70, iv (1 : Int32)] [(.int (0 : Int32))])) st93 ?_
        refine ow_ifNoW (q := 176) X93 hx (hb hby at_173) rfl (Jvm.Free.XT.i0_ne_f (by decide)) ?_
        refine ow_iconstW (q := 177) X93 hx (1 : Int32) (hb hby at_176) rfl rfl ?_
        refine ow_gotoW (q := 181) X93 hx (hb hby at_177) (by decide) (by decide) ?_
        refine ow_istoreW (q := 183) X93 hx (L' := #[iv p0, iv p1, iv p2, iv (0 : Int32), iv v2, rv b65, rv b70, iv (1 : Int32)]) (hb hby at_181) rfl rfl ?_
        refine ow_iloadW (q := 185) X93 hx (hb hby at_183) rfl rfl ?_
        refine ownRetNW X93 hx (r := (1 : Int32)) (Or.inl rfl) Bd.returns (hb hby at_185) hlk (by decide) (by decide) (by decide) ?_
        refine ⟨?_, (by rw [e93]; exact Nat.le_refl _)⟩
        exact ⟨rfl, N93⟩
      · refine ow_icmpYesW (q := 69) X0 hx (hb hby at_52) (Jvm.Free.XT.ii_ne_t hc52_63) (by decide) (by decide) ?_
        refine ow_iconstW (q := 70) X0 hx (2 : Int32) (hb hby at_69) rfl rfl ?_
        obtain ⟨T94, h94, k94, X94, e94, E94, A94, st94⟩ := newP X0 hx hZ (ww 61 rfl) e0 (g := (mkF m 70 #[iv p0, iv p1, iv p2, iv (0 : Int32), iv v2, .unset, .unset, .unset] [(.int (2 : Int32))])) rfl (hb hby at_70) rfl (by decide) (cap := 2) (by decide) (by decide) (by decide) (by decide)
        obtain ⟨b94, g94⟩ : ∃ z, z = h0.size := ⟨_, rfl⟩
        rw [← g94] at A94 st94
        have ne_xp_b94 : xp ≠ b94 := Nat.ne_of_lt (Nat.lt_of_lt_of_le HF2.lt (Nat.le_of_eq g94.symm))
        have sz_b94 : h0.size ≤ b94 := Nat.le_trans K0.1 (Nat.le_of_eq g94.symm)
        have G_b94 : n0 ≤ b94 := Nat.le_trans Z0 sz_b94
        have K94 : Keep h0 h94 [] := K0.ext E94
        have F95 : Sta Z h94 "java/lang/String" "COMPACT_STRINGS" "Z" (.int zc) := HF0.ext E94
        have F96 : Sta Z h94 "com/example/shapewright/shapewright/testsuite/TestOutcome" "PASSED" "Lcom/example/shapewright/shapewright/testsuite/TestOutcome;" (.ref xp) := HF1.ext E94
        have F97 : Exa Z h94 xp "com/example/shapewright/shapewright/testsuite/TestOutcome" := HF2.ext E94
        have F98 : Fld Z h94 xp "com/example/shapewright/shapewright/testsuite/TestOutcome" "reason" "Ljava/lang/String;" .null := HF3.ext E94
        have F99 : ownAI Z h94 b94 .char 2 (fun _ => (0 : Int32)) := ownAI.new A94 (by decide) rfl (by decide)
        refine ownGoW (T' := T94) (f' := (mkF m 72 #[iv p0, iv p1, iv p2, iv (0 : Int32), iv v2, .unset, .unset, .unset] [(.ref b94)])) (st94) ?_
        refine ow_astoreW (q := 74) X94 hx (L' := #[iv p0, iv p1, iv p2, iv (0 : Int32), iv v2, .unset, rv b94, .unset]) (hb hby at_72) rfl rfl rfl ?_
        refine ow_aloadW (q := 76) X94 hx (hb hby at_74) rfl rfl rfl ?_
        refine ow_iconstW (q := 77) X94 hx (0 : Int32) (hb hby at_76) rfl rfl ?_
        refine ow_iloadNW (q := 78) X94 hx (hb hby at_77) rfl rfl ?_
        refine ow_sipushW (q := 81) X94 hx (255 : Int32) (hb hby at_78) rfl rfl ?_
        refine ow_iandW (q := 82) X94 hx _ (hb hby at_81) rfl rfl ?_
        refine ow_i2cW (q := 83) X94 hx _ (hb hby at_82) rfl rfl ?_
        generalize hv_v100 : ((p0 &&& (255 : Int32)).toUInt32.toUInt16.toUInt32.toInt32) = v100
        obtain ⟨T101, h101, X101, e101, W101, F101s, st101⟩ := ownCastore F99 X94 hx hZ e94 (j := (0 : Int32)) (by unfold ownIn; decide) (g := (mkF m 83 #[iv p0, iv p1, iv p2, iv (0 : Int32), iv v2, .unset, rv b94, .unset] [(.int v100), (.int (0 : Int32)), (.ref b94)])) rfl rfl (hb hby at_83)
        rw [own_narc hv_v100] at F101s
        have F101r : ownAI Z h101 b94 .char 2 (ownUpd (fun _ => (0 : Int32)) 0 v100) := F101s
        have N101 := Fr.snoc X101 N0 G_b94
        have K101 : Keep h0 h101 [] := K94.wr W101 (Or.inr sz_b94)
        have F102 : Sta Z h101 "java/lang/String" "COMPACT_STRINGS" "Z" (.int zc) := F95.wr W101
        have F103 : Sta Z h101 "com/example/shapewright/shapewright/testsuite/TestOutcome" "PASSED" "Lcom/example/shapewright/shapewright/testsuite/TestOutcome;" (.ref xp) := F96.wr W101
        have F104 : Exa Z h101 xp "com/example/shapewright/shapewright/testsuite/TestOutcome" := F97.wr W101
        have F105 : Fld Z h101 xp "com/example/shapewright/shapewright/testsuite/TestOutcome" "reason" "Ljava/lang/String;" .null := F98.other W101 (Or.inl ne_xp_b94)
        refine ownGoW (T' := T101) (f' := (mkF m 84 #[iv p0, iv p1, iv p2, iv (0 : Int32), iv v2, .unset, rv b94, .unset] [])) (st101) ?_
        refine ow_aloadW (q := 86) X101 hx (hb hby at_84) rfl rfl rfl ?_
        refine ow_iconstW (q := 87) X101 hx (1 : Int32) (hb hby at_86) rfl rfl ?_
        refine ow_iloadNW (q := 88) X101 hx (hb hby at_87) rfl rfl ?_
        refine ow_sipushW (q := 91) X101 hx (255 : Int32) (hb hby at_88) rfl rfl ?_
        refine ow_iandW (q := 92) X101 hx _ (hb hby at_91) rfl rfl ?_
        refine ow_i2cW (q := 93) X101 hx _ (hb hby at_92) rfl rfl ?_
        generalize hv_v106 : ((p1 &&& (255 : Int32)).toUInt32.toUInt16.toUInt32.toInt32) = v106
        obtain ⟨T107, h107, X107, e107, W107, F107s, st107⟩ := ownCastore F101r X101 hx hZ e101 (j := (1 : Int32)) (by unfold ownIn; decide) (g := (mkF m 93 #[iv p0, iv p1, iv p2, iv (0 : Int32), iv v2, .unset, rv b94, .unset] [(.int v106), (.int (1 : Int32)), (.ref b94)])) rfl rfl (hb hby at_93)
        rw [own_narc hv_v106] at F107s
        have F107r : ownAI Z h107 b94 .char 2 (ownUpd (ownUpd (fun _ => (0 : Int32)) 0 v100) 1 v106) := F107s
        have N107 := Fr.snoc X107 N101 G_b94
        have K107 : Keep h0 h107 [] := K101.wr W107 (Or.inr sz_b94)
        have F108 : Sta Z h107 "java/lang/String" "COMPACT_STRINGS" "Z" (.int zc) := F102.wr W107
        have F109 : Sta Z h107 "com/example/shapewright/shapewright/testsuite/TestOutcome" "PASSED" "Lcom/example/shapewright/shapewright/testsuite/TestOutcome;" (.ref xp) := F103.wr W107
        have F110 : Exa Z h107 xp "com/example/shapewright/shapewright/testsuite/TestOutcome" := F104.wr W107
        have F111 : Fld Z h107 xp "com/example/shapewright/shapewright/testsuite/TestOutcome" "reason" "Ljava/lang/String;" .null := F105.other W107 (Or.inl ne_xp_b94)
        refine ownGoW (T' := T107) (f' := (mkF m 94 #[iv p0, iv p1, iv p2, iv (0 : Int32), iv v2, .unset, rv b94, .unset] [])) (st107) ?_
        obtain ⟨T112, h112, X112, e112, E112, A112, D112, -, st112⟩ := newO X107 hx hZ hown (ww 60 rfl) (ww 10 rfl) (ww 2 rfl) e107 (g := (mkF m 94 #[iv p0, iv p1, iv p2, iv (0 : Int32), iv v2, .unset, rv b94, .unset] [])) rfl (hb hby at_94) (by decide) (by decide)
        obtain ⟨b112, g112⟩ : ∃ z, z = h107.size := ⟨_, rfl⟩
        rw [← g112] at A112 D112 st112
        have ne_xp_b112 : xp ≠ b112 := Nat.ne_of_lt (Nat.lt_of_lt_of_le F110.lt (Nat.le_of_eq g112.symm))
        have ne_b94_b112 : b94 ≠ b112 := Nat.ne_of_lt (Nat.lt_of_lt_of_le F107r.lt (Nat.le_of_eq g112.symm))
        have sz_b112 : h0.size ≤ b112 := Nat.le_trans K107.1 (Nat.le_of_eq g112.symm)
        have G_b112 : n0 ≤ b112 := Nat.le_trans Z0 sz_b112
        have K112 : Keep h0 h112 [] := K107.ext E112
        have F113 : Sta Z h112 "java/lang/String" "COMPACT_STRINGS" "Z" (.int zc) := F108.ext E112
        have F114 : Sta Z h112 "com/example/shapewright/shapewright/testsuite/TestOutcome" "PASSED" "Lcom/example/shapewright/shapewright/testsuite/TestOutcome;" (.ref xp) := F109.ext E112
        have F115 : Exa Z h112 xp "com/example/shapewright/shapewright/testsuite/TestOutcome" := F110.ext E112
        have F116 : Fld Z h112 xp "com/example/shapewright/shapewright/testsuite/TestOutcome" "reason" "Ljava/lang/String;" .null := F111.ext E112
        have F117 : ownAI Z h112 b94 .char 2 (ownUpd (ownUpd (fun _ => (0 : Int32)) 0 v100) 1 v106) := F107r.ext E112
        have F118 : Fld Z h112 b112 "java/lang/String" "value" "[B" .null := D112 (Or.inr (ww 23 rfl)) (ty := (.array .byte)) (by decide)
        have F119 : Fld Z h112 b112 "java/lang/String" "coder" "B" (.int (0 : Int32)) := D112 (Or.inr (ww 25 rfl)) (ty := .byte) (by decide)
        refine ownGoW (T' := T112) (f' := (mkF m 97 #[iv p0, iv p1, iv p2, iv (0 : Int32), iv v2, .unset, rv b94, .unset] [(.ref b112)])) (st112) ?_
        refine ow_dupW (q := 98) X112 hx (hb hby at_97) rfl rfl ?_
        refine ow_aloadW (q := 100) X112 hx (hb hby at_98) rfl rfl rfl ?_
        obtain ⟨_, _, ⟨T120, L120, k120, n120⟩, -, X120, ⟨Lc120, hQ120, l120, y120, z120⟩, st120⟩ := X112.specialBack hx (y := (⟨"java/lang/String", "<init>", "([C)V"⟩ : MethodName)) rfl hown (mvT hZ (ww 62 rfl)) (mvT hZ (ww 63 rfl)) (mvT hZ (ww 64 rfl)) (by decide) (ownStr (W := 1) (n0 := n0) hZ (fun d hd => hw d (own_strW d hd)) (ww 10 rfl) (Nat.le_trans Z0 K112.1) A112 F118 F119 F117 F113 G_b112 hz (own_255U (j := 1) (own_a255 hv_v106) (own_255U (j := 0) (own_a255 hv_v100) own_2550)) (by decide) (by decide) (by decide) (by decide)) (g := (mkF m 100 #[iv p0, iv p1, iv p2, iv (0 : Int32), iv v2, .unset, rv b94, .unset] [(.ref b94), (.ref b112), (.ref b112)])) rfl (by rw [hml]; rfl) (Steps.refl _) (a := b112) (argsL := [(.ref b94)]) (rest := [(.ref b112)]) (lenOf own_pd7 rfl) rfl (by show 2 * 0 + _ ≤ _; exact Nat.le_of_eq rfl) (hb hby at_100) (fun _ _ => ⟨rfl, e112, (by decide : 2 + 1 ≤ _), (by decide : 6 + 2 ≤ _)⟩)
        dsimp only [Pt.U, Pt.locs, Pt.cells, Pt.slots] at X120 l120 y120 z120 st120 hQ120
        subst l120 y120 z120
        obtain ⟨t_120, rfl, N120q, Kq120, sq120_t_120, FP120_0, FP120_1, FP120_2⟩ := hQ120
        have N120 := Fr.app N107 N120q
        have K120 : Keep h0 T120.heap [] := K112.trans Kq120 (allS (Or.inr sz_b112) all0)
        have ne_xp_t_120 : xp ≠ t_120 := Nat.ne_of_lt (Nat.lt_of_lt_of_le F115.lt sq120_t_120)
        have ne_b94_t_120 : b94 ≠ t_120 := Nat.ne_of_lt (Nat.lt_of_lt_of_le F117.lt sq120_t_120)
        have ne_b112_t_120 : b112 ≠ t_120 := Nat.ne_of_lt (Nat.lt_of_lt_of_le A112.lt sq120_t_120)
        have sz_t_120 : h0.size ≤ t_120 := Nat.le_trans K112.1 sq120_t_120
        have G_t_120 : n0 ≤ t_120 := Nat.le_trans Z0 sz_t_120
        have F121 : Sta Z T120.heap "java/lang/String" "COMPACT_STRINGS" "Z" (.int zc) := ownStaKeep F113 Kq120 (allS (ownNstE A112) all0)
        have F122 : Sta Z T120.heap "com/example/shapewright/shapewright/testsuite/TestOutcome" "PASSED" "Lcom/example/shapewright/shapewright/testsuite/TestOutcome;" (.ref xp) := ownStaKeep F114 Kq120 (allS (ownNstE A112) all0)
        have F123 : Exa Z T120.heap xp "com/example/shapewright/shapewright/testsuite/TestOutcome" := F115.keep Kq120
        have F124 : Fld Z T120.heap xp "com/example/shapewright/shapewright/testsuite/TestOutcome" "reason" "Ljava/lang/String;" .null := F116.keep Kq120 (ninS ne_xp_b112 nin0)
        have F125 : ownAI Z T120.heap b94 .char 2 (ownUpd (ownUpd (fun _ => (0 : Int32)) 0 v100) 1 v106) := F117.keep Kq120 (ninS ne_b94_b112 nin0)
        have F126 : Exa Z T120.heap b112 "java/lang/String" := A112.keep Kq120
        refine ownRunW (T' := T120) (f' := (mkF m 103 #[iv p0, iv p1, iv p2, iv (0 : Int32), iv v2, .unset, rv b94, .unset] [(.ref b112)])) st120 ?_
        refine ow_astoreW (q := 105) X120 hx (L' := #[iv p0, iv p1, iv p2, iv (0 : Int32), iv v2, rv b112, rv b94, .unset]) (hb hby at_103) rfl rfl rfl ?_
        obtain ⟨T127, h127, X127, e127, E127, A127, D127, -, st127⟩ := newO X120 hx hZ hown (ww 26 rfl) (ww 27 rfl) (ww 28 rfl) rfl (g := (mkF m 105 #[iv p0, iv p1, iv p2, iv (0 : Int32), iv v2, rv b112, rv b94, .unset] [])) rfl (hb hby at_105) (by decide) (by decide)
        obtain ⟨b127, g127⟩ : ∃ z, z = T120.heap.size := ⟨_, rfl⟩
        rw [← g127] at A127 D127 st127
        have ne_xp_b127 : xp ≠ b127 := Nat.ne_of_lt (Nat.lt_of_lt_of_le F123.lt (Nat.le_of_eq g127.symm))
        have ne_b94_b127 : b94 ≠ b127 := Nat.ne_of_lt (Nat.lt_of_lt_of_le F125.lt (Nat.le_of_eq g127.symm))
        have ne_b112_b127 : b112 ≠ b127 := Nat.ne_of_lt (Nat.lt_of_lt_of_le F126.lt (Nat.le_of_eq g127.symm))
        have ne_t_120_b127 : t_120 ≠ b127 := Nat.ne_of_lt (Nat.lt_of_lt_of_le FP120_2.lt (Nat.le_of_eq g127.symm))
        have sz_b127 : h0.size ≤ b127 := Nat.le_trans K120.1 (Nat.le_of_eq g127.symm)
        have G_b127 : n0 ≤ b127 := Nat.le_trans Z0 sz_b127
        have K127 : Keep h0 h127 [] := K120.ext E127
        have F128 : Sta Z h127 "java/lang/String" "COMPACT_STRINGS" "Z" (.int zc) := F121.ext E127
        have F129 : Sta Z h127 "com/example/shapewright/shapewright/testsuite/TestOutcome" "PASSED" "Lcom/example/shapewright/shapewright/testsuite/TestOutcome;" (.ref xp) := F122.ext E127
        have F130 : Exa Z h127 xp "com/example/shapewright/shapewright/testsuite/TestOutcome" := F123.ext E127
        have F131 : Fld Z h127 xp "com/example/shapewright/shapewright/testsuite/TestOutcome" "reason" "Ljava/lang/String;" .null := F124.ext E127
        have F132 : ownAI Z h127 b94 .char 2 (ownUpd (ownUpd (fun _ => (0 : Int32)) 0 v100) 1 v106) := F125.ext E127
        have F133 : Exa Z h127 b112 "java/lang/String" := F126.ext E127
        have F134 : Fld Z h127 b112 "java/lang/String" "coder" "B" (.int (0 : Int32)) := FP120_0.ext E127
        have F135 : Fld Z h127 b112 "java/lang/String" "value" "[B" (.ref t_120) := FP120_1.ext E127
        have F136 : ownAI Z h127 t_120 .byte 2 (fun i => ((ownUpd (ownUpd (fun _ => (0 : Int32)) 0 v100) 1 v106) i).toInt8.toInt32) := FP120_2.ext E127
        have F137 : Fld Z h127 b127 "com/example/shapewright/shapewright/testsuite/TestOutcome" "reason" "Ljava/lang/String;" .null := D127 (Or.inr (ww 39 rfl)) (ty := (.object "java/lang/String")) (by decide)
        refine ownGoW (T' := T127) (f' := (mkF m 108 #[iv p0, iv p1, iv p2, iv (0 : Int32), iv v2, rv b112, rv b94, .unset] [(.ref b127)])) (st127) ?_
        refine ow_dupW (q := 109) X127 hx (hb hby at_108) rfl rfl ?_
        refine ow_aloadW (q := 111) X127 hx (hb hby at_109) rfl rfl rfl ?_
        obtain ⟨_, _, ⟨T138, L138, k138, n138⟩, -, X138, ⟨Lc138, hQ138, l138, y138, z138⟩, st138⟩ := X127.specialBack hx (y := (⟨"com/example/shapewright/shapewright/testsuite/TestOutcome", "<init>", "(Ljava/lang/String;)V"⟩ : MethodName)) rfl hown (mvT hZ (ww 29 rfl)) (mvT hZ (ww 30 rfl)) (mvT hZ (ww 31 rfl)) (by decide) (backOf (W := 1) (rm_toR l Z av0 hw [] b127 b112 h127 n0 (Nat.le_trans Z0 K127.1) A127 F137 G_b127) hZ (ww 31 rfl) (ww 28 rfl) (by decide) (by decide)) (g := (mkF m 111 #[iv p0, iv p1, iv p2, iv (0 : Int32), iv v2, rv b112, rv b94, .unset] [(.ref b112), (.ref b127), (.ref b127)])) rfl (by rw [hml]; rfl) (Steps.refl _) (a := b127) (argsL := [(.ref b112)]) (rest := [(.ref b127)]) (lenOf own_pd6 rfl) rfl (by show 2 * 0 + _ ≤ _; exact Nat.le_of_eq rfl) (hb hby at_111) (fun _ _ => ⟨rfl, e127, (by decide : 4 + 0 ≤ _), (by decide : 9 + 0 ≤ _)⟩)
        dsimp only [Pt.U, Pt.locs, Pt.cells, Pt.slots] at X138 l138 y138 z138 st138 hQ138
        subst l138 y138 z138
        obtain ⟨rfl, N138q, Kq138, FP138_0⟩ := hQ138
        have N138 := Fr.app N120 N138q
        have K138 : Keep h0 T138.heap [] := K127.trans Kq138 (allS (Or.inr sz_b127) all0)
        have F139 : Sta Z T138.heap "java/lang/String" "COMPACT_STRINGS" "Z" (.int zc) := ownStaKeep F128 Kq138 (allS (ownNstE A127) all0)
        have F140 : Sta Z T138.heap "com/example/shapewright/shapewright/testsuite/TestOutcome" "PASSED" "Lcom/example/shapewright/shapewright/testsuite/TestOutcome;" (.ref xp) := ownStaKeep F129 Kq138 (allS (ownNstE A127) all0)
        have F141 : Exa Z T138.heap xp "com/example/shapewright/shapewright/testsuite/TestOutcome" := F130.keep Kq138
        have F142 : Fld Z T138.heap xp "com/example/shapewright/shapewright/testsuite/TestOutcome" "reason" "Ljava/lang/String;" .null := F131.keep Kq138 (ninS ne_xp_b127 nin0)
        have F143 : ownAI Z T138.heap b94 .char 2 (ownUpd (ownUpd (fun _ => (0 : Int32)) 0 v100) 1 v106) := F132.keep Kq138 (ninS ne_b94_b127 nin0)
        have F144 : Exa Z T138.heap b112 "java/lang/String" := F133.keep Kq138
        have F145 : Fld Z T138.heap b112 "java/lang/String" "coder" "B" (.int (0 : Int32)) := F134.keep Kq138 (ninS ne_b112_b127 nin0)
        have F146 : Fld Z T138.heap b112 "java/lang/String" "value" "[B" (.ref t_120) := F135.keep Kq138 (ninS ne_b112_b127 nin0)
        have F147 : ownAI Z T138.heap t_120 .byte 2 (fun i => ((ownUpd (ownUpd (fun _ => (0 : Int32)) 0 v100) 1 v106) i).toInt8.toInt32) := F136.keep Kq138 (ninS ne_t_120_b127 nin0)
        have F148 : Exa Z T138.heap b127 "com/example/shapewright/shapewright/testsuite/TestOutcome" := A127.keep Kq138
        refine ownRunW (T' := T138) (f' := (mkF m 114 #[iv p0, iv p1, iv p2, iv (0 : Int32), iv v2, rv b112, rv b94, .unset] [(.ref b127)])) st138 ?_
        refine ow_astoreW (q := 116) X138 hx (L' := #[iv p0, iv p1, iv p2, iv (0 : Int32), iv v2, rv b112, rv b127, .unset]) (hb hby at_114) rfl rfl rfl ?_
        refine ow_aloadW (q := 118) X138 hx (hb hby at_116) rfl rfl rfl ?_
        obtain ⟨cq149, kq149, q149a, q149b, q149c⟩ := isOf hZ rfl F148
        obtain ⟨_, _, ⟨T149, L149, k149, n149⟩, -, X149, ⟨Lc149, hQ149, l149, y149, z149⟩, st149⟩ := X138.virtualBack hx (y := (⟨"com/example/shapewright/shapewright/testsuite/TestOutcome", "passed", "()Z"⟩ : MethodName)) (z := (⟨"com/example/shapewright/shapewright/testsuite/TestOutcome", "passed", "()Z"⟩ : MethodName)) hown (mvT hZ (ww 40 rfl)) (mvT hZ (ww 41 rfl)) (notFace_of_selects (args := #[]) (mvT hZ (ww 43 rfl))) (mvT hZ (ww 43 rfl)) (mvT hZ (ww 42 rfl)) (by decide) (backOf (W := 0) (rm_paR l Z av0 hw [] b127 b112 T138.heap n0 (Nat.le_trans Z0 K138.1) FP138_0) hZ (ww 44 rfl) (ww 28 rfl) (by decide) (by decide)) q149a q149c (g := (mkF m 118 #[iv p0, iv p1, iv p2, iv (0 : Int32), iv v2, rv b112, rv b127, .unset] [(.ref b127)])) rfl (by rw [hml]; rfl) (Steps.refl _) (argsL := []) (rest := []) (lenOf own_pd8 rfl) rfl (by show 2 * 0 + _ ≤ _; exact Nat.le_of_eq rfl) (hb hby at_118) (fun _ _ => ⟨rfl, rfl, (by decide : 4 + 0 ≤ _), (by decide : 9 + 0 ≤ _)⟩)
        dsimp only [Pt.U, Pt.locs, Pt.cells, Pt.slots] at X149 l149 y149 z149 st149 hQ149
        subst l149 y149 z149
        obtain ⟨rfl, N149q, e149⟩ := hQ149
        have N149 := Fr.app N138 N149q
        refine ownRunW (T' := T149) (f' := (mkF m 121 #[iv p0, iv p1, iv p2, iv (0 : Int32), iv v2, rv b112, rv b127, .unset] [(.int (0 : Int32))])) st149 ?_
        refine ow_iloadNW (q := 122) X149 hx (hb hby at_121) rfl rfl ?_
        refine ow_icmpNoW (q := 125) X149 hx (hb hby at_122) rfl (Jvm.Free.XT.ii_ne_f (by decide)) ?_
        refine ow_iconstW (q := 126) X149 hx (1 : Int32) (hb hby at_125) rfl rfl ?_
        refine ow_gotoW (q := 130) X149 hx (hb hby at_126) (by decide) (by decide) ?_
        refine ow_istoreW (q := 132) X149 hx (L' := #[iv p0, iv p1, iv p2, iv (0 : Int32), iv v2, rv b112, rv b127, iv (1 : Int32)]) (hb hby at_130) rfl rfl ?_
        refine ow_iloadNW (q := 133) X149 hx (hb hby at_132) rfl rfl ?_
        refine ow_ifYesW (q := 160) X149 hx (hb hby at_133) (Jvm.Free.XT.i0_eq_t (by decide)) (by decide) (by decide) ?_
        refine ow_iloadW (q := 162) X149 hx (hb hby at_160) rfl rfl ?_
        refine ow_ifNoW (q := 165) X149 hx (hb hby at_162) rfl (Jvm.Free.XT.i0_eq_f (by decide)) ?_
        refine ow_aloadW (q := 167) X149 hx (hb hby at_165) rfl rfl rfl ?_
        obtain ⟨_, _, ⟨T150, L150, k150, n150⟩, -, X150, hS150, gr150, ⟨Lc150, hQ150, l150, y150, z150⟩, st150⟩ := callSW X149 hx (y := (⟨"com/example/shapewright/shapewright/testsuite/TestOutcome", "failed", "(Ljava/lang/String;)Lcom/example/shapewright/shapewright/testsuite/TestOutcome;"⟩ : MethodName)) hown (mvT hZ (ww 45 rfl)) (mvT hZ (ww 46 rfl)) (mvT hZ (ww 28 rfl)) (mvT hZ (ww 47 rfl)) (by decide) (backOfW (W := 0) (rm_failed l Z av0 hw [] b112 T138.heap n0 (Nat.le_trans Z0 K138.1) F144) hZ (ww 47 rfl) (ww 28 rfl) (by decide) (by decide)) (g := (mkF m 167 #[iv p0, iv p1, iv p2, iv (0 : Int32), iv v2, rv b112, rv b127, iv (1 : Int32)] [(.ref b112)])) rfl (by rw [hml]; rfl) (argsL := [(.ref b112)]) (rest := []) (lenOf own_pd9 rfl) rfl (by show 2 * 0 + _ ≤ _; exact Nat.le_of_eq rfl) (hb hby at_167) (fun _ _ => ⟨rfl, e149, (by decide : 4 + 3 ≤ _), (by decide : 9 + 29 ≤ _)⟩)
        dsimp only [Pt.U, Pt.locs, Pt.cells, Pt.slots] at X150 l150 y150 z150 st150 hQ150 hS150 gr150
        subst l150 y150 z150
        obtain ⟨b150, rfl, N150q, Kq150, sq150_b150, FP150_0, FP150_1⟩ := hQ150
        have N150 := Fr.app N149 N150q
        have K150 : Keep h0 T150.heap [] := K138.trans Kq150 all0
        have ne_xp_b150 : xp ≠ b150 := Nat.ne_of_lt (Nat.lt_of_lt_of_le F141.lt sq150_b150)
        have ne_b94_b150 : b94 ≠ b150 := Nat.ne_of_lt (Nat.lt_of_lt_of_le F143.lt sq150_b150)
        have ne_b112_b150 : b112 ≠ b150 := Nat.ne_of_lt (Nat.lt_of_lt_of_le F144.lt sq150_b150)
        have ne_t_120_b150 : t_120 ≠ b150 := Nat.ne_of_lt (Nat.lt_of_lt_of_le F147.lt sq150_b150)
        have ne_b127_b150 : b127 ≠ b150 := Nat.ne_of_lt (Nat.lt_of_lt_of_le F148.lt sq150_b150)
        have sz_b150 : h0.size ≤ b150 := Nat.le_trans K138.1 sq150_b150
        have G_b150 : n0 ≤ b150 := Nat.le_trans Z0 sz_b150
        have F151 : Sta Z T150.heap "java/lang/String" "COMPACT_STRINGS" "Z" (.int zc) := ownStaKeep F139 Kq150 all0
        have F152 : Sta Z T150.heap "com/example/shapewright/shapewright/testsuite/TestOutcome" "PASSED" "Lcom/example/shapewright/shapewright/testsuite/TestOutcome;" (.ref xp) := ownStaKeep F140 Kq150 all0
        have F153 : Exa Z T150.heap xp "com/example/shapewright/shapewright/testsuite/TestOutcome" := F141.keep Kq150
        have F154 : Fld Z T150.heap xp "com/example/shapewright/shapewright/testsuite/TestOutcome" "reason" "Ljava/lang/String;" .null := F142.keep Kq150 nin0
        have F155 : ownAI Z T150.heap b94 .char 2 (ownUpd (ownUpd (fun _ => (0 : Int32)) 0 v100) 1 v106) := F143.keep Kq150 nin0
        have F156 : Exa Z T150.heap b112 "java/lang/String" := F144.keep Kq150
        have F157 : Fld Z T150.heap b112 "java/lang/String" "coder" "B" (.int (0 : Int32)) := F145.keep Kq150 nin0
        have F158 : Fld Z T150.heap b112 "java/lang/String" "value" "[B" (.ref t_120) := F146.keep Kq150 nin0
        have F159 : ownAI Z T150.heap t_120 .byte 2 (fun i => ((ownUpd (ownUpd (fun _ => (0 : Int32)) 0 v100) 1 v106) i).toInt8.toInt32) := F147.keep Kq150 nin0
        have F160 : Exa Z T150.heap b127 "com/example/shapewright/shapewright/testsuite/TestOutcome" := F148.keep Kq150
        have F161 : Fld Z T150.heap b127 "com/example/shapewright/shapewright/testsuite/TestOutcome" "reason" "Ljava/lang/String;" (.ref b112) := FP138_0.keep Kq150 nin0
        refine ownRunW (T' := T150) (f' := (mkF m 170 #[iv p0, iv p1, iv p2, iv (0 : Int32), iv v2, rv b112, rv b127, iv (1 : Int32)] [(.ref b150)])) st150 ?_
        refine ownRebaseW hZ hown hS150 X150 ?_
        intro s X150 hZ hown
        obtain ⟨cq162, kq162, q162a, q162b, q162c⟩ := isOf hZ rfl FP150_0
        obtain ⟨_, _, ⟨T162, L162, k162, n162⟩, -, X162, ⟨Lc162, hQ162, l162, y162, z162⟩, st162⟩ := X150.virtualBack hx (y := (⟨"com/example/shapewright/shapewright/testsuite/TestOutcome", "passed", "()Z"⟩ : MethodName)) (z := (⟨"com/example/shapewright/shapewright/testsuite/TestOutcome", "passed", "()Z"⟩ : MethodName)) hown (mvT hZ (ww 40 rfl)) (mvT hZ (ww 41 rfl)) (notFace_of_selects (args := #[]) (mvT hZ (ww 43 rfl))) (mvT hZ (ww 43 rfl)) (mvT hZ (ww 42 rfl)) (by decide) (backOf (W := 0) (rm_paR l Z av0 hw [] b150 b112 T150.heap n0 (Nat.le_trans Z0 K150.1) FP150_1) hZ (ww 44 rfl) (ww 28 rfl) (by decide) (by decide)) q162a q162c (g := (mkF m 170 #[iv p0, iv p1, iv p2, iv (0 : Int32), iv v2, rv b112, rv b127, iv (1 : Int32)] [(.ref b150)])) rfl (by rw [hml]; rfl) (Steps.refl _) (argsL := []) (rest := []) (lenOf own_pd8 rfl) rfl (by show 2 * 0 + _ ≤ _; exact Nat.le_of_eq rfl) (hb hby at_170) (fun _ _ => ⟨rfl, rfl, (by decide : 7 + 0 ≤ _), (by decide : 38 + 0 ≤ _)⟩)
        dsimp only [Pt.U, Pt.locs, Pt.cells, Pt.slots] at X162 l162 y162 z162 st162 hQ162
        subst l162 y162 z162
        obtain ⟨rfl, N162q, e162⟩ := hQ162
        have N162 := Fr.app N150 N162q
        refine ownRunW (T' := T162) (f' := (mkF m 173 #[iv p0, iv p1, iv p2, iv (0 : Int32), iv v2, rv b112, rv b127, iv (1 : Int32)] [(.int (0 : Int32))])) st162 ?_
        refine ow_ifNoW (q := 176) X162 hx (hb hby at_173) rfl (Jvm.Free.XT.i0_ne_f (by decide)) ?_
        refine ow_iconstW (q := 177) X162 hx (1 : Int32) (hb hby at_176) rfl rfl ?_
        refine ow_gotoW (q := 181) X162 hx (hb hby at_177) (by decide) (by decide) ?_
        refine ow_istoreW (q := 183) X162 hx (L' := #[iv p0, iv p1, iv p2, iv (0 : Int32), iv v2, rv b112, rv b127, iv (1 : Int32)]) (hb hby at_181) rfl rfl ?_
        refine ow_iloadW (q := 185) X162 hx (hb hby at_183) rfl rfl ?_
        refine ownRetNW X162 hx (r := (1 : Int32)) (Or.inl rfl) Bd.returns (hb hby at_185) hlk (by decide) (by decide) (by decide) ?_
        refine ⟨?_, (by rw [e162]; exact Nat.le_refl _)⟩
        exact ⟨rfl, N162⟩
  · refine ow_ifNoW (q := 6) X0 hx (hb hby at_3) rfl (Jvm.Free.XT.i0_eq_f hc3_1) ?_
    refine ow_iconstW (q := 7) X0 hx (1 : Int32) (hb hby at_6) rfl rfl ?_
    refine ow_gotoW (q := 11) X0 hx (hb hby at_7) (by decide) (by decide) ?_
    refine ow_istoreNW (q := 12) X0 hx (L' := #[iv p0, iv p1, iv p2, iv (1 : Int32), .unset, .unset, .unset, .unset]) (hb hby at_11) rfl rfl ?_
    refine ow_iloadNW (q := 13) X0 hx (hb hby at_12) rfl rfl ?_
    refine ow_iconstW (q := 14) X0 hx (1 : Int32) (hb hby at_13) rfl rfl ?_
    refine ow_iushrW (q := 15) X0 hx _ (hb hby at_14) rfl rfl ?_
    refine ow_iconstW (q := 16) X0 hx (3 : Int32) (hb hby at_15) rfl rfl ?_
    refine ow_iandW (q := 17) X0 hx _ (hb hby at_16) rfl rfl ?_
    generalize hv_v163 : (((p2.toUInt32 >>> ((1 : Int32) &&& 31).toUInt32).toInt32) &&& (3 : Int32)) = v163
    refine ow_istoreW (q := 19) X0 hx (L' := #[iv p0, iv p1, iv p2, iv (1 : Int32), iv v163, .unset, .unset, .unset]) (hb hby at_17) rfl rfl ?_
    refine ow_iloadNW (q := 20) X0 hx (hb hby at_19) rfl rfl ?_
    refine ow_ifNoW (q := 23) X0 hx (hb hby at_20) rfl (Jvm.Free.XT.i0_eq_f (by decide)) ?_
    refine ow_aconstNullW (q := 24) X0 hx (hb hby at_23) rfl ?_
    refine ow_astoreW (q := 26) X0 hx (L' := #[iv p0, iv p1, iv p2, iv (1 : Int32), iv v163, .val .null, .unset, .unset]) (hb hby at_24) rfl rfl rfl ?_
    refine ow_gotoW (q := 105) X0 hx (hb hby at_26) (by decide) (by decide) ?_
    obtain ⟨T164, h164, X164, e164, E164, A164, D164, -, st164⟩ := newO X0 hx hZ hown (ww 26 rfl) (ww 27 rfl) (ww 28 rfl) e0 (g := (mkF m 105 #[iv p0, iv p1, iv p2, iv (1 : Int32), iv v163, .val .null, .unset, .unset] [])) rfl (hb hby at_105) (by decide) (by decide)
    obtain ⟨b164, g164⟩ : ∃ z, z = h0.size := ⟨_, rfl⟩
    rw [← g164] at A164 D164 st164
    have ne_xp_b164 : xp ≠ b164 := Nat.ne_of_lt (Nat.lt_of_lt_of_le HF2.lt (Nat.le_of_eq g164.symm))
    have sz_b164 : h0.size ≤ b164 := Nat.le_trans K0.1 (Nat.le_of_eq g164.symm)
    have G_b164 : n0 ≤ b164 := Nat.le_trans Z0 sz_b164
    have K164 : Keep h0 h164 [] := K0.ext E164
    have F165 : Sta Z h164 "java/lang/String" "COMPACT_STRINGS" "Z" (.int zc) := HF0.ext E164
    have F166 : Sta Z h164 "com/example/shapewright/shapewright/testsuite/TestOutcome" "PASSED" "Lcom/example/shapewright/shapewright/testsuite/TestOutcome;" (.ref xp) := HF1.ext E164
    have F167 : Exa Z h164 xp "com/example/shapewright/shapewright/testsuite/TestOutcome" := HF2.ext E164
    have F168 : Fld Z h164 xp "com/example/shapewright/shapewright/testsuite/TestOutcome" "reason" "Ljava/lang/String;" .null := HF3.ext E164
    have F169 : Fld Z h164 b164 "com/example/shapewright/shapewright/testsuite/TestOutcome" "reason" "Ljava/lang/String;" .null := D164 (Or.inr (ww 39 rfl)) (ty := (.object "java/lang/String")) (by decide)
    refine ownGoW (T' := T164) (f' := (mkF m 108 #[iv p0, iv p1, iv p2, iv (1 : Int32), iv v163, .val .null, .unset, .unset] [(.ref b164)])) (st164) ?_
    refine ow_dupW (q := 109) X164 hx (hb hby at_108) rfl rfl ?_
    refine ow_aloadW (q := 111) X164 hx (hb hby at_109) rfl rfl rfl ?_
    obtain ⟨_, _, ⟨T170, L170, k170, n170⟩, -, X170, ⟨Lc170, hQ170, l170, y170, z170⟩, st170⟩ := X164.specialBack hx (y := (⟨"com/example/shapewright/shapewright/testsuite/TestOutcome", "<init>", "(Ljava/lang/String;)V"⟩ : MethodName)) rfl hown (mvT hZ (ww 29 rfl)) (mvT hZ (ww 30 rfl)) (mvT hZ (ww 31 rfl)) (by decide) (backOf (W := 1) (rm_toN l Z av0 hw [] b164 h164 n0 (Nat.le_trans Z0 K164.1) A164 F169 G_b164) hZ (ww 31 rfl) (ww 28 rfl) (by decide) (by decide)) (g := (mkF m 111 #[iv p0, iv p1, iv p2, iv (1 : Int32), iv v163, .val .null, .unset, .unset] [.null, (.ref b164), (.ref b164)])) rfl (by rw [hml]; rfl) (Steps.refl _) (a := b164) (argsL := [.null]) (rest := [(.ref b164)]) (lenOf own_pd6 rfl) rfl (by show 2 * 0 + _ ≤ _; exact Nat.le_of_eq rfl) (hb hby at_111) (fun _ _ => ⟨rfl, e164, (by decide : 1 + 0 ≤ _), (by decide : 1 + 0 ≤ _)⟩)
    dsimp only [Pt.U, Pt.locs, Pt.cells, Pt.slots] at X170 l170 y170 z170 st170 hQ170
    subst l170 y170 z170
    obtain ⟨rfl, N170q, Kq170, FP170_0⟩ := hQ170
    have N170 := Fr.app N0 N170q
    have K170 : Keep h0 T170.heap [] := K164.trans Kq170 (allS (Or.inr sz_b164) all0)
    have F171 : Sta Z T170.heap "java/lang/String" "COMPACT_STRINGS" "Z" (.int zc) := ownStaKeep F165 Kq170 (allS (ownNstE A164) all0)
    have F172 : Sta Z T170.heap "com/example/shapewright/shapewright/testsuite/TestOutcome" "PASSED" "Lcom/example/shapewright/shapewright/testsuite/TestOutcome;" (.ref xp) := ownStaKeep F166 Kq170 (allS (ownNstE A164) all0)
    have F173 : Exa Z T170.heap xp "com/example/shapewright/shapewright/testsuite/TestOutcome" := F167.keep Kq170
    have F174 : Fld Z T170.heap xp "com/example/shapewright/shapewright/testsuite/TestOutcome" "reason" "Ljava/lang/String;" .null := F168.keep Kq170 (ninS ne_xp_b164 nin0)
    have F175 : Exa Z T170.heap b164 "com/example/shapewright/shapewright/testsuite/TestOutcome" := A164.keep Kq170
    refine ownRunW (T' := T170) (f' := (mkF m 114 #[iv p0, iv p1, iv p2, iv (1 : Int32), iv v163, .val .null, .unset, .unset] [(.ref b164)])) st170 ?_
    refine ow_astoreW (q := 116) X170 hx (L' := #[iv p0, iv p1, iv p2, iv (1 : Int32), iv v163, .val .null, rv b164, .unset]) (hb hby at_114) rfl rfl rfl ?_
    refine ow_aloadW (q := 118) X170 hx (hb hby at_116) rfl rfl rfl ?_
    obtain ⟨cq176, kq176, q176a, q176b, q176c⟩ := isOf hZ rfl F175
    obtain ⟨_, _, ⟨T176, L176, k176, n176⟩, -, X176, ⟨Lc176, hQ176, l176, y176, z176⟩, st176⟩ := X170.virtualBack hx (y := (⟨"com/example/shapewright/shapewright/testsuite/TestOutcome", "passed", "()Z"⟩ : MethodName)) (z := (⟨"com/example/shapewright/shapewright/testsuite/TestOutcome", "passed", "()Z"⟩ : MethodName)) hown (mvT hZ (ww 40 rfl)) (mvT hZ (ww 41 rfl)) (notFace_of_selects (args := #[]) (mvT hZ (ww 43 rfl))) (mvT hZ (ww 43 rfl)) (mvT hZ (ww 42 rfl)) (by decide) (backOf (W := 0) (rm_paN l Z av0 hw [] b164 T170.heap n0 (Nat.le_trans Z0 K170.1) FP170_0) hZ (ww 44 rfl) (ww 28 rfl) (by decide) (by decide)) q176a q176c (g := (mkF m 118 #[iv p0, iv p1, iv p2, iv (1 : Int32), iv v163, .val .null, rv b164, .unset] [(.ref b164)])) rfl (by rw [hml]; rfl) (Steps.refl _) (argsL := []) (rest := []) (lenOf own_pd8 rfl) rfl (by show 2 * 0 + _ ≤ _; exact Nat.le_of_eq rfl) (hb hby at_118) (fun _ _ => ⟨rfl, rfl, (by decide : 1 + 0 ≤ _), (by decide : 1 + 0 ≤ _)⟩)
    dsimp only [Pt.U, Pt.locs, Pt.cells, Pt.slots] at X176 l176 y176 z176 st176 hQ176
    subst l176 y176 z176
    obtain ⟨rfl, N176q, e176⟩ := hQ176
    have N176 := Fr.app N170 N176q
    refine ownRunW (T' := T176) (f' := (mkF m 121 #[iv p0, iv p1, iv p2, iv (1 : Int32), iv v163, .val .null, rv b164, .unset] [(.int (1 : Int32))])) st176 ?_
    refine ow_iloadNW (q := 122) X176 hx (hb hby at_121) rfl rfl ?_
    refine ow_icmpNoW (q := 125) X176 hx (hb hby at_122) rfl (Jvm.Free.XT.ii_ne_f (by decide)) ?_
    refine ow_iconstW (q := 126) X176 hx (1 : Int32) (hb hby at_125) rfl rfl ?_
    refine ow_gotoW (q := 130) X176 hx (hb hby at_126) (by decide) (by decide) ?_
    refine ow_istoreW (q := 132) X176 hx (L' := #[iv p0, iv p1, iv p2, iv (1 : Int32), iv v163, .val .null, rv b164, iv (1 : Int32)]) (hb hby at_130) rfl rfl ?_
    refine ow_iloadNW (q := 133) X176 hx (hb hby at_132) rfl rfl ?_
    refine ow_ifNoW (q := 136) X176 hx (hb hby at_133) rfl (Jvm.Free.XT.i0_eq_f (by decide)) ?_
    refine ow_iloadW (q := 138) X176 hx (hb hby at_136) rfl rfl ?_
    refine ow_ifNoW (q := 141) X176 hx (hb hby at_138) rfl (Jvm.Free.XT.i0_eq_f (by decide)) ?_
    obtain ⟨T177, X177, e177, st177⟩ := getS2 X176 hx hZ hown (host := "") (Or.inl (ww 58 rfl)) Via.refl e176 F172 (g := (mkF m 141 #[iv p0, iv p1, iv p2, iv (1 : Int32), iv v163, .val .null, rv b164, iv (1 : Int32)] [])) rfl (hb hby at_141)
    refine ownGoW (T' := T177) (f' := (mkF m 144 #[iv p0, iv p1, iv p2, iv (1 : Int32), iv v163, .val .null, rv b164, iv (1 : Int32)] [(.ref xp)])) (st177) ?_
    obtain ⟨cq178, kq178, q178a, q178b, q178c⟩ := isOf hZ e177 F173
    obtain ⟨_, _, ⟨T178, L178, k178, n178⟩, -, X178, ⟨Lc178, hQ178, l178, y178, z178⟩, st178⟩ := X177.virtualBack hx (y := (⟨"com/example/shapewright/shapewright/testsuite/TestOutcome", "passed", "()Z"⟩ : MethodName)) (z := (⟨"com/example/shapewright/shapewright/testsuite/TestOutcome", "passed", "()Z"⟩ : MethodName)) hown (mvT hZ (ww 40 rfl)) (mvT hZ (ww 41 rfl)) (notFace_of_selects (args := #[]) (mvT hZ (ww 43 rfl))) (mvT hZ (ww 43 rfl)) (mvT hZ (ww 42 rfl)) (by decide) (backOf (W := 0) (rm_paN l Z av0 hw [] xp T170.heap n0 (Nat.le_trans Z0 K170.1) F174) hZ (ww 44 rfl) (ww 28 rfl) (by decide) (by decide)) q178a q178c (g := (mkF m 144 #[iv p0, iv p1, iv p2, iv (1 : Int32), iv v163, .val .null, rv b164, iv (1 : Int32)] [(.ref xp)])) rfl (by rw [hml]; rfl) (Steps.refl _) (argsL := []) (rest := []) (lenOf own_pd8 rfl) rfl (by show 2 * 0 + _ ≤ _; exact Nat.le_of_eq rfl) (hb hby at_144) (fun _ _ => ⟨rfl, e177, (by decide : 1 + 0 ≤ _), (by decide : 1 + 0 ≤ _)⟩)
    dsimp only [Pt.U, Pt.locs, Pt.cells, Pt.slots] at X178 l178 y178 z178 st178 hQ178
    subst l178 y178 z178
    obtain ⟨rfl, N178q, e178⟩ := hQ178
    have N178 := Fr.app N176 N178q
    refine ownRunW (T' := T178) (f' := (mkF m 147 #[iv p0, iv p1, iv p2, iv (1 : Int32), iv v163, .val .null, rv b164, iv (1 : Int32)] [(.int (1 : Int32))])) st178 ?_
    refine ow_ifNoW (q := 150) X178 hx (hb hby at_147) rfl (Jvm.Free.XT.i0_eq_f (by decide)) ?_
    refine ow_iconstW (q := 151) X178 hx (1 : Int32) (hb hby at_150) rfl rfl ?_
    refine ow_gotoW (q := 155) X178 hx (hb hby at_151) (by decide) (by decide) ?_
    refine ow_istoreW (q := 157) X178 hx (L' := #[iv p0, iv p1, iv p2, iv (1 : Int32), iv v163, .val .null, rv b164, iv (1 : Int32)]) (hb hby at_155) rfl rfl ?_
    refine ow_gotoW (q := 183) X178 hx (hb hby at_157) (by decide) (by decide) ?_
    refine ow_iloadW (q := 185) X178 hx (hb hby at_183) rfl rfl ?_
    refine ownRetNW X178 hx (r := (1 : Int32)) (Or.inl rfl) Bd.returns (hb hby at_185) hlk (by decide) (by decide) (by decide) ?_
    exact ⟨rfl, N178⟩
set_option maxRecDepth 65536 in
set_option maxHeartbeats 40000000 in
theorem comes_1 {Post : Tables → Env → Array Value → State → Outcome → State → Prop} (hpost : ∀ tb e args s v u, (limb_1_1.after args s (.returned v) u = true ∧ limb_1_2.after args s (.returned v) u = true ∧ True) → ReturnedEndW s (.returned v) u (Jvm.fieldLocs frame_1_writes args s ++ Jvm.arrayLocs frame_1_arrays args s ++ Jvm.staticLocs frame_1_statics s) 24 2176 → Post tb e args s (.returned v) u) :
    ArmFor flags0 classFile x code maxLocals ret World_1 tables_1 room_1 Calls_1 rest_1 Pre_1 Post := by
  intro l hfl _ _ p e ha hc hk s m args below hf hA hF happ hP
  obtain ⟨hcalls, hrest, hpre⟩ := hP
  obtain ⟨-, -, -, hnamed, -, -, -, hat⟩ := (Spec.applies_iff hf).mp happ
  obtain ⟨hg, hn⟩ := and_e (Cond.before_iff.mp (show (Jvm.Cond.and given_1 narrow_1).before args s = true from hpre))
  obtain ⟨gg1, gg2⟩ := and_e hg
  obtain ⟨gg3, gg4⟩ := and_e gg2
  obtain ⟨gg5, gg6⟩ := and_e gg4
  obtain ⟨w0, w1, w2, rfl⟩ : ∃ w0 w1 w2 : Value, args = #[w0, w1, w2] := by
    have hs : args.size = 3 := by simpa [Cond.value, given_1] using gg1
    obtain ⟨L⟩ := args
    match L, hs with
    | [w0, w1, w2], _ => exact ⟨w0, w1, w2, rfl⟩
  have hw := fun d (hd : d ∈ tables_1) => atoms_spec (ws := Jvm.Cond.code x code maxLocals ret :: tables_1) hat d (List.mem_cons_of_mem _ hd)
  have hfit : Fit s := fun {y c} hc i hi => by
    obtain ⟨ha, rfl⟩ := Array.getElem?_eq_some_iff.mp hc
    have q := List.all_eq_true.mp ((Array.all_eq_true_iff_forall_mem.mp hF) _ (Array.getElem_mem ha)) i (List.mem_range.mpr hi)
    simpa [Array.getElem?_eq_getElem hi] using q
  obtain ⟨hsets, hown0⟩ := atoms_of _ (rest_1_c_eq ▸ (show rest_1_c.before _ s = true from hrest))
  have hr0 := Cond.before_iff.mp hown0
  obtain ⟨i0, ei0⟩ := is_v gg3
  obtain rfl : w0 = (.int i0) := Option.some.inj ei0
  obtain ⟨i1, ei1⟩ := is_v gg5
  obtain rfl : w1 = (.int i1) := Option.some.inj ei1
  obtain ⟨i2, ei2⟩ := is_v gg6
  obtain rfl : w2 = (.int i2) := Option.some.inj ei2
  have n5 := not_v (Cond.before_iff.mp (hsets _ (List.mem_of_getElem? (i := 2) rfl)))
  obtain ⟨zc, ezc⟩ := is_v (Cond.before_iff.mp (hsets _ (List.mem_of_getElem? (i := 1) rfl)))
  have SC : Sta s s.heap "java/lang/String" "COMPACT_STRINGS" "Z" (.int zc) := Sta.start ezc (Or.inl (hsets _ (List.mem_of_getElem? (i := 0) rfl)))
  have hzc : ¬ (zc = (0 : Int32)) := gotF (Cond.eq_ints ezc (Term.int_eval (0))) n5
  obtain ⟨nn1, nn2⟩ := and_e hn
  obtain ⟨x_PASSED, ev_PASSED⟩ := exa_v nn1
  have E_PASSED := Exa.start ev_PASSED nn1
  have S_PASSED := Sta.start ev_PASSED (Or.inr ⟨(hw _ (List.mem_of_getElem? (i := 28) rfl)), (hw _ (List.mem_of_getElem? (i := 59) rfl))⟩)
  have F_PASSED_reason := own_fldNull nn2 ev_PASSED
  have hCH0 : CHv s [("java/lang/String", 7)] s.vm s.heap := CHv.start (own_EW hw) (fun p hp => by obtain rfl := List.mem_singleton.mp hp; exact hcalls.1 _ (List.mem_cons_of_mem _ (List.mem_singleton.mpr rfl))) (hsets _ (List.mem_of_getElem? (i := 2) rfl)) (hw _ (List.mem_of_getElem? (i := 14) rfl)) (hw _ (List.mem_of_getElem? (i := 10) rfl))
  obtain ⟨n, o, h1, h2, h3, _, L, rfl, ⟨rfl, N⟩, hq⟩ := rm_law l s _ hw tables_1 i0 i1 i2 zc x_PASSED s.heap s.heap.size (Nat.le_refl _) SC S_PASSED E_PASSED F_PASSED_reason hzc p e ha hc hk s m _ below hf ((Spec.applies_iff_loose hf).mp happ).1 ⟨rfl, State.Warmed39.refl s, rfl, hCH0⟩ trivial
  refine ⟨n, _, h1, h2, h3, hpost _ _ _ _ _ _ ⟨Cond.after_iff.mpr rfl, Cond.after_iff.mpr (eq_i res_at (Term.int_eval (1)) rfl), trivial⟩ ⟨hq.1, hq.2.1, hq.2.2.1, (hq.2.2.2.sift fun y hy => Or.inr (N y hy)).mono (by decide) (by decide)⟩⟩
theorem main_1_1 : Claimed_1_1 := comes_1 fun _ _ _ _ _ _ h hF => ⟨h.1, hF⟩
theorem main_1_2 : Claimed_1_2 := comes_1 fun _ _ _ _ _ _ h hF => ⟨h.2.1, hF⟩
end Jvm.Pilot.@@N@@
namespace Jvm.Pilot.@@N@@
open Jvm Jvm.ClassFile Sem Op Lib Jvm.Free Jvm.Stand Jvm.Pilot.@@N@@.Jvm.D
/-! MADE BY PROGRAM (witnessworld.py) out of the Statement's table words and the real class files: 20 classes; the members and pool entries that the words name. The judged class is class 1, her method 1. -/
namespace start1
open Jvm.ClassFile
def u (s : String) : CpInfo := .utf8 (stringToUtf16 s)
/-- a pool by its gaps: so many unusable entries, then the entry; so many at the end -/
def gap : Nat → List CpInfo → List CpInfo
  | 0, r => r
  | n + 1, r => .unusable :: gap n r
def poolList (es : List (Nat × CpInfo)) (last : Nat) : List CpInfo := es.foldr (fun e r => gap e.1 (e.2 :: r)) (gap last [])
def pool (es : List (Nat × CpInfo)) (last : Nat) : Array CpInfo := ⟨poolList es last⟩
def fileOf (pool : Array CpInfo) (this : Nat) (attrs : Array Attribute := #[]) (ms : Array MethodInfo := #[]) (fl : Nat := 33) (sup : Nat := 0) (ifs : Array Nat := #[]) (fds : Array FieldInfo := #[]) : ClassFile where
  minorVersion := 0
  majorVersion := 65
  constantPool := pool
  accessFlags := fl
  thisClass := this
  superClass := sup
  interfaces := ifs
  fields := fds
  methods := ms
  attributes := attrs
def plain (name : String) (sup : Option ClassId) : Class where
  name := name
  kind := .ordinary
  loader := none
  accessFlags := 33
  super := sup
  interfaces := #[]
  cf := none
  fields := #[]
  methods := #[]
  instanceTypes := #[]
  staticTypes := #[]
  resolved := #[]
  callSites := []
  init := .initialized
  statics := none
  mirror := none

def pool0 : Array CpInfo := pool [(5, u "<init>"), (0, u "()V"), (1, .class_ 10), (1, u "java/lang/Object")] 113

def k0c0 : Code := { maxStack := 0, maxLocals := 1, code := object_method_1_code, exceptionTable := #[], attributes := #[] }
def k0m0 : Method := { name := "<init>", desc := "()V", sig := { parameters := [], returnType := none }, accessFlags := 1, code := some k0c0 }
/-- java/lang/Object -/
def k0 : Class := { plain "java/lang/Object" none with
  accessFlags := 33
  interfaces := #[]
  cf := some (fileOf pool0 8 #[] #[{ accessFlags := 1, nameIndex := 5, descriptorIndex := 6, attributes := #[] }] 33 0 #[] #[])
  fields := #[]
  methods := #[k0m0]
  instanceTypes := #[]
  staticTypes := #[]
  resolved := Array.replicate 124 none
  statics := none }

def pool1 : Array CpInfo := pool [(2, .class_ 4), (1, u "java/lang/Object"), (0, u "<init>"), (0, u "()V"), (0, .class_ 8), (0, u "java/lang/String"), (0, .methodref 7 10), (0, .nameAndType 5 11), (0, u "([C)V"), (0, .methodref 7 13), (0, .nameAndType 14 15), (0, u "valueOf"), (0, u "(C)Ljava/lang/String;"), (0, .class_ 17), (0, u "com/example/shapewright/shapewright/testsuite/TestOutcome"), (0, .methodref 16 19), (0, .nameAndType 5 20), (0, u "(Ljava/lang/String;)V"), (0, .methodref 16 22), (0, .nameAndType 23 24), (0, u "passed"), (0, u "()Z"), (0, .fieldref 16 26), (0, .nameAndType 27 28), (0, u "PASSED"), (0, u "Lcom/example/shapewright/shapewright/testsuite/TestOutcome;"), (0, .methodref 16 30), (0, .nameAndType 31 32), (0, u "failed"), (0, u "(Ljava/lang/String;)Lcom/example/shapewright/shapewright/testsuite/TestOutcome;"), (0, .class_ 34), (0, u "com/example/shapewright/shapewright/testsuite/TestOutcomePassedPinLaw"), (2, u "law"), (0, u "(III)Z")] 3

def k1m0 : Method := { name := "<init>", desc := "()V", sig := { parameters := [], returnType := none }, accessFlags := 2, code := none }
def k1c1 : Code := { maxStack := 4, maxLocals := 8, code := code, exceptionTable := #[], attributes := #[] }
def k1m1 : Method := { name := "law", desc := "(III)Z", sig := { parameters := [.int, .int, .int], returnType := some .boolean }, accessFlags := 9, code := some k1c1 }
/-- com/example/shapewright/shapewright/testsuite/TestOutcomePassedPinLaw -/
def k1 : Class := { plain "com/example/shapewright/shapewright/testsuite/TestOutcomePassedPinLaw" (some 0) with
  accessFlags := 49
  interfaces := #[]
  cf := some (fileOf pool1 33 #[] #[{ accessFlags := 2, nameIndex := 5, descriptorIndex := 6, attributes := #[] }, { accessFlags := 9, nameIndex := 37, descriptorIndex := 38, attributes := #[] }] 49 2 #[] #[])
  fields := #[]
  methods := #[k1m0, k1m1]
  instanceTypes := #[]
  staticTypes := #[]
  resolved := Array.replicate 42 none
  statics := none }

def pool2 : Array CpInfo := pool [(1, .class_ 2), (0, u "java/io/Serializable"), (0, .class_ 4), (0, u "java/lang/Object")] 2

/-- java/io/Serializable -/
def k2 : Class := { plain "java/io/Serializable" (some 0) with
  accessFlags := 1537
  interfaces := #[]
  cf := some (fileOf pool2 1 #[] #[] 1537 3 #[] #[])
  fields := #[]
  methods := #[]
  instanceTypes := #[]
  staticTypes := #[]
  resolved := Array.replicate 7 none
  statics := none }

def pool3 : Array CpInfo := pool [(1, .class_ 2), (0, u "java/lang/Comparable"), (0, .class_ 4), (0, u "java/lang/Object")] 7

/-- java/lang/Comparable -/
def k3 : Class := { plain "java/lang/Comparable" (some 0) with
  accessFlags := 1537
  interfaces := #[]
  cf := some (fileOf pool3 1 #[] #[] 1537 3 #[] #[])
  fields := #[]
  methods := #[]
  instanceTypes := #[]
  staticTypes := #[]
  resolved := Array.replicate 12 none
  statics := none }

def pool4 : Array CpInfo := pool [(2, .class_ 4), (1, u "java/lang/CharSequence"), (42, .class_ 48), (0, u "java/lang/CharSequence$1CodePointIterator"), (10, .class_ 60), (0, u "java/lang/CharSequence$1CharIterator"), (5, .class_ 67), (0, u "java/lang/Object")] 63

/-- java/lang/CharSequence -/
def k4 : Class := { plain "java/lang/CharSequence" (some 0) with
  accessFlags := 1537
  interfaces := #[]
  cf := some (fileOf pool4 2 #[.nestMembers #[47, 59]] #[] 1537 66 #[] #[])
  fields := #[]
  methods := #[]
  instanceTypes := #[]
  staticTypes := #[]
  resolved := Array.replicate 131 none
  statics := none }

def pool5 : Array CpInfo := pool [(1, .class_ 2), (0, u "java/lang/constant/Constable"), (0, .class_ 4), (0, u "java/lang/Object")] 6

/-- java/lang/constant/Constable -/
def k5 : Class := { plain "java/lang/constant/Constable" (some 0) with
  accessFlags := 1537
  interfaces := #[]
  cf := some (fileOf pool5 1 #[] #[] 1537 3 #[] #[])
  fields := #[]
  methods := #[]
  instanceTypes := #[]
  staticTypes := #[]
  resolved := Array.replicate 11 none
  statics := none }

def pool6 : Array CpInfo := pool [(1, .class_ 2), (0, u "java/lang/constant/ConstantDesc"), (0, .class_ 4), (0, u "java/lang/Object")] 32

/-- java/lang/constant/ConstantDesc -/
def k6 : Class := { plain "java/lang/constant/ConstantDesc" (some 0) with
  accessFlags := 1537
  interfaces := #[]
  cf := some (fileOf pool6 1 #[] #[] 1537 3 #[] #[])
  fields := #[]
  methods := #[]
  instanceTypes := #[]
  staticTypes := #[]
  resolved := Array.replicate 37 none
  statics := none }

def pool7 : Array CpInfo := pool [(1, .methodref 2 3), (0, .class_ 4), (0, .nameAndType 5 6), (0, u "java/lang/Object"), (0, u "<init>"), (0, u "()V"), (0, .string 8), (0, u ""), (0, .fieldref 10 11), (0, .class_ 12), (0, .nameAndType 13 14), (0, u "java/lang/String"), (0, u "value"), (0, u "[B"), (0, .fieldref 10 16), (0, .nameAndType 17 18), (0, u "coder"), (0, u "B"), (2, u "hash"), (0, u "I"), (2, u "hashIsZero"), (0, u "Z"), (0, .methodref 10 28), (0, .nameAndType 5 29), (0, u "([CIILjava/lang/Void;)V"), (8, .fieldref 10 39), (0, .nameAndType 40 26), (0, u "COMPACT_STRINGS"), (1, .class_ 44), (1, u "java/lang/StringUTF16"), (0, u "compress"), (1, .methodref 42 48), (0, .nameAndType 49 50), (0, u "coderFromArrayLen"), (0, u "([BI)B"), (2, u "toBytes"), (53, .class_ 109), (1, u "java/lang/StringLatin1"), (67, .methodref 42 178), (0, .nameAndType 45 179), (0, u "([CII)[B"), (29, .methodref 10 210), (0, .nameAndType 5 211), (0, u "([BB)V"), (157, u "(C)Z"), (205, .class_ 576), (0, u "java/lang/CharSequence"), (22, u "CASE_INSENSITIVE_ORDER"), (0, u "Ljava/util/Comparator;"), (181, u "valueOf"), (0, u "(C)Ljava/lang/String;"), (226, u "([C)V"), (4, .methodref 107 1016), (0, .nameAndType 1017 369), (0, u "canEncode"), (0, .methodref 107 1019), (0, .nameAndType 53 1020), (0, u "(C)[B"), (80, u "serialPersistentFields"), (0, u "[Ljava/io/ObjectStreamField;"), (0, .class_ 1104), (0, u "java/lang/String$CaseInsensitiveComparator"), (1, .class_ 1107), (0, u "java/io/Serializable"), (0, .class_ 1109), (0, u "java/lang/Comparable"), (0, .class_ 1111), (0, u "java/lang/constant/Constable"), (0, .class_ 1113), (0, u "java/lang/constant/ConstantDesc"), (2, u "serialVersionUID"), (0, u "J"), (3, u "REPL"), (0, u "C"), (2, u "LATIN1"), (1, u "UTF16")] 323

def k7m0 : Method := { name := "<init>", desc := "()V", sig := { parameters := [], returnType := none }, accessFlags := 1, code := none }
def k7c1 : Code := { maxStack := 5, maxLocals := 2, code := jdk_42_method_3_code, exceptionTable := #[], attributes := #[] }
def k7m1 : Method := { name := "<init>", desc := "([C)V", sig := { parameters := [(.array .char)], returnType := none }, accessFlags := 1, code := some k7c1 }
def k7c2 : Code := { maxStack := 4, maxLocals := 1, code := jdk_42_method_139_code, exceptionTable := #[], attributes := #[] }
def k7m2 : Method := { name := "valueOf", desc := "(C)Ljava/lang/String;", sig := { parameters := [.char], returnType := some (.object "java/lang/String") }, accessFlags := 9, code := some k7c2 }
def k7c3 : Code := { maxStack := 4, maxLocals := 6, code := jdk_42_method_149_code, exceptionTable := #[], attributes := #[] }
def k7m3 : Method := { name := "<init>", desc := "([CIILjava/lang/Void;)V", sig := { parameters := [(.array .char), .int, .int, (.object "java/lang/Void")], returnType := none }, accessFlags := 2, code := some k7c3 }
def k7c4 : Code := { maxStack := 2, maxLocals := 3, code := jdk_42_method_151_code, exceptionTable := #[], attributes := #[] }
def k7m4 : Method := { name := "<init>", desc := "([BB)V", sig := { parameters := [(.array .byte), .byte], returnType := none }, accessFlags := 0, code := some k7c4 }
/-- java/lang/String -/
def k7 : Class := { plain "java/lang/String" (some 0) with
  accessFlags := 49
  interfaces := #[2, 3, 4, 5, 6]
  cf := some (fileOf pool7 10 #[.nestMembers #[1103]] #[{ accessFlags := 1, nameIndex := 5, descriptorIndex := 6, attributes := #[] }, { accessFlags := 1, nameIndex := 5, descriptorIndex := 1010, attributes := #[] }, { accessFlags := 9, nameIndex := 782, descriptorIndex := 783, attributes := #[] }, { accessFlags := 2, nameIndex := 5, descriptorIndex := 29, attributes := #[] }, { accessFlags := 0, nameIndex := 5, descriptorIndex := 211, attributes := #[] }] 49 2 #[1106, 1108, 575, 1110, 1112] #[{ accessFlags := 18, nameIndex := 13, descriptorIndex := 14, attributes := #[] }, { accessFlags := 18, nameIndex := 17, descriptorIndex := 18, attributes := #[] }, { accessFlags := 2, nameIndex := 21, descriptorIndex := 22, attributes := #[] }, { accessFlags := 2, nameIndex := 25, descriptorIndex := 26, attributes := #[] }, { accessFlags := 26, nameIndex := 1116, descriptorIndex := 1117, attributes := #[] }, { accessFlags := 24, nameIndex := 40, descriptorIndex := 26, attributes := #[] }, { accessFlags := 26, nameIndex := 1101, descriptorIndex := 1102, attributes := #[] }, { accessFlags := 26, nameIndex := 1121, descriptorIndex := 1122, attributes := #[] }, { accessFlags := 25, nameIndex := 599, descriptorIndex := 600, attributes := #[] }, { accessFlags := 24, nameIndex := 1125, descriptorIndex := 18, attributes := #[] }, { accessFlags := 24, nameIndex := 1127, descriptorIndex := 18, attributes := #[] }])
  fields := #[{ name := "value", type := (.array .byte), accessFlags := 18, slot := 0, constantValue := 0 }, { name := "coder", type := .byte, accessFlags := 18, slot := 1, constantValue := 0 }, { name := "hash", type := .int, accessFlags := 2, slot := 2, constantValue := 0 }, { name := "hashIsZero", type := .boolean, accessFlags := 2, slot := 3, constantValue := 0 }, { name := "serialVersionUID", type := .long, accessFlags := 26, slot := 0, constantValue := 0 }, { name := "COMPACT_STRINGS", type := .boolean, accessFlags := 24, slot := 1, constantValue := 0 }, { name := "serialPersistentFields", type := (.array (.object "java/io/ObjectStreamField")), accessFlags := 26, slot := 2, constantValue := 0 }, { name := "REPL", type := .char, accessFlags := 26, slot := 3, constantValue := 0 }, { name := "CASE_INSENSITIVE_ORDER", type := (.object "java/util/Comparator"), accessFlags := 25, slot := 4, constantValue := 0 }, { name := "LATIN1", type := .byte, accessFlags := 24, slot := 5, constantValue := 0 }, { name := "UTF16", type := .byte, accessFlags := 24, slot := 6, constantValue := 0 }]
  methods := #[k7m0, k7m1, k7m2, k7m3, k7m4]
  instanceTypes := #[(.array .byte), .byte, .int, .boolean]
  staticTypes := #[.long, .boolean, (.array (.object "java/io/ObjectStreamField")), .char, (.object "java/util/Comparator"), .byte, .byte]
  resolved := Array.replicate 1451 none
  statics := some 0 }

def pool8 : Array CpInfo := pool [(4, .class_ 6), (1, u "java/lang/Object"), (0, u "<init>"), (0, u "()V"), (5, .class_ 16), (1, u "java/lang/StringLatin1"), (73, u "canEncode"), (14, u "(C)Z"), (15, u "$assertionsDisabled"), (0, u "Z"), (98, .class_ 223), (1, u "java/lang/StringLatin1$LinesSpliterator"), (156, u "toBytes"), (1, u "(C)[B"), (7, .class_ 391), (0, u "java/lang/StringLatin1$CharsSpliterator")] 3

def k8m0 : Method := { name := "<init>", desc := "()V", sig := { parameters := [], returnType := none }, accessFlags := 0, code := none }
def k8c1 : Code := { maxStack := 2, maxLocals := 1, code := jdk_43_method_3_code, exceptionTable := #[], attributes := #[] }
def k8m1 : Method := { name := "canEncode", desc := "(C)Z", sig := { parameters := [.char], returnType := some .boolean }, accessFlags := 9, code := some k8c1 }
def k8c2 : Code := { maxStack := 4, maxLocals := 1, code := jdk_43_method_46_code, exceptionTable := #[], attributes := #[] }
def k8m2 : Method := { name := "toBytes", desc := "(C)[B", sig := { parameters := [.char], returnType := some (.array .byte) }, accessFlags := 9, code := some k8c2 }
/-- java/lang/StringLatin1 -/
def k8 : Class := { plain "java/lang/StringLatin1" (some 0) with
  accessFlags := 48
  interfaces := #[]
  cf := some (fileOf pool8 14 #[.nestMembers #[390, 221]] #[{ accessFlags := 0, nameIndex := 7, descriptorIndex := 8, attributes := #[] }, { accessFlags := 9, nameIndex := 90, descriptorIndex := 105, attributes := #[] }, { accessFlags := 9, nameIndex := 380, descriptorIndex := 382, attributes := #[] }] 48 4 #[] #[{ accessFlags := 4120, nameIndex := 121, descriptorIndex := 122, attributes := #[] }])
  fields := #[{ name := "$assertionsDisabled", type := .boolean, accessFlags := 4120, slot := 0, constantValue := 0 }]
  methods := #[k8m0, k8m1, k8m2]
  instanceTypes := #[]
  staticTypes := #[.boolean]
  resolved := Array.replicate 395 none
  statics := none }

def pool9 : Array CpInfo := pool [(1, .methodref 2 3), (0, .class_ 4), (0, .nameAndType 5 6), (0, u "java/lang/Object"), (0, u "<init>"), (0, u "()V"), (0, .class_ 8), (0, u "java/lang/Record")] 13

def k9c0 : Code := { maxStack := 1, maxLocals := 1, code := jdk_30_method_1_code, exceptionTable := #[], attributes := #[] }
def k9m0 : Method := { name := "<init>", desc := "()V", sig := { parameters := [], returnType := none }, accessFlags := 4, code := some k9c0 }
/-- java/lang/Record -/
def k9 : Class := { plain "java/lang/Record" (some 0) with
  accessFlags := 1057
  interfaces := #[]
  cf := some (fileOf pool9 7 #[] #[{ accessFlags := 4, nameIndex := 5, descriptorIndex := 6, attributes := #[] }] 1057 2 #[] #[])
  fields := #[]
  methods := #[k9m0]
  instanceTypes := #[]
  staticTypes := #[]
  resolved := Array.replicate 22 none
  statics := none }

def pool10 : Array CpInfo := pool [(1, .methodref 2 3), (0, .class_ 4), (0, .nameAndType 5 6), (0, u "java/lang/Record"), (0, u "<init>"), (0, u "()V"), (0, .fieldref 8 9), (0, .class_ 10), (0, .nameAndType 11 12), (0, u "com/example/shapewright/shapewright/testsuite/TestOutcome"), (0, u "reason"), (0, u "Ljava/lang/String;"), (0, .string 11), (0, .methodref 15 16), (0, .class_ 17), (0, .nameAndType 18 19), (0, u "java/util/Objects"), (0, u "requireNonNull"), (0, u "(Ljava/lang/Object;Ljava/lang/String;)Ljava/lang/Object;"), (0, .class_ 21), (0, u "java/lang/String"), (0, .methodref 8 23), (0, .nameAndType 5 24), (0, u "(Ljava/lang/String;)V"), (14, u "PASSED"), (0, u "Lcom/example/shapewright/shapewright/testsuite/TestOutcome;"), (3, u "failed"), (0, u "(Ljava/lang/String;)Lcom/example/shapewright/shapewright/testsuite/TestOutcome;"), (0, u "passed"), (0, u "()Z")] 23

def k10c0 : Code := { maxStack := 2, maxLocals := 2, code := prog_45_method_1_code, exceptionTable := #[], attributes := #[] }
def k10m0 : Method := { name := "<init>", desc := "(Ljava/lang/String;)V", sig := { parameters := [(.object "java/lang/String")], returnType := none }, accessFlags := 1, code := some k10c0 }
def k10c1 : Code := { maxStack := 4, maxLocals := 1, code := prog_45_method_2_code, exceptionTable := #[], attributes := #[] }
def k10m1 : Method := { name := "failed", desc := "(Ljava/lang/String;)Lcom/example/shapewright/shapewright/testsuite/TestOutcome;", sig := { parameters := [(.object "java/lang/String")], returnType := some (.object "com/example/shapewright/shapewright/testsuite/TestOutcome") }, accessFlags := 9, code := some k10c1 }
def k10c2 : Code := { maxStack := 1, maxLocals := 1, code := prog_45_method_3_code, exceptionTable := #[], attributes := #[] }
def k10m2 : Method := { name := "passed", desc := "()Z", sig := { parameters := [], returnType := some .boolean }, accessFlags := 1, code := some k10c2 }
/-- com/example/shapewright/shapewright/testsuite/TestOutcome -/
def k10 : Class := { plain "com/example/shapewright/shapewright/testsuite/TestOutcome" (some 9) with
  accessFlags := 49
  interfaces := #[]
  cf := some (fileOf pool10 8 #[] #[{ accessFlags := 1, nameIndex := 5, descriptorIndex := 24, attributes := #[] }, { accessFlags := 9, nameIndex := 44, descriptorIndex := 45, attributes := #[] }, { accessFlags := 1, nameIndex := 46, descriptorIndex := 47, attributes := #[] }] 49 2 #[] #[{ accessFlags := 18, nameIndex := 11, descriptorIndex := 12, attributes := #[] }, { accessFlags := 25, nameIndex := 39, descriptorIndex := 40, attributes := #[] }])
  fields := #[{ name := "reason", type := (.object "java/lang/String"), accessFlags := 18, slot := 0, constantValue := 0 }, { name := "PASSED", type := (.object "com/example/shapewright/shapewright/testsuite/TestOutcome"), accessFlags := 25, slot := 0, constantValue := 0 }]
  methods := #[k10m0, k10m1, k10m2]
  instanceTypes := #[(.object "java/lang/String")]
  staticTypes := #[(.object "com/example/shapewright/shapewright/testsuite/TestOutcome")]
  resolved := Array.replicate 71 none
  statics := some 1 }

def pool11 : Array CpInfo := pool [(2, .class_ 4), (1, u "java/lang/Object"), (0, u "<init>"), (0, u "()V"), (35, .class_ 44), (1, u "java/util/Objects"), (0, u "requireNonNull"), (48, u "(Ljava/lang/Object;Ljava/lang/String;)Ljava/lang/Object;")] 89

def k11m0 : Method := { name := "<init>", desc := "()V", sig := { parameters := [], returnType := none }, accessFlags := 2, code := none }
def k11c1 : Code := { maxStack := 3, maxLocals := 2, code := jdk_31_method_11_code, exceptionTable := #[], attributes := #[] }
def k11m1 : Method := { name := "requireNonNull", desc := "(Ljava/lang/Object;Ljava/lang/String;)Ljava/lang/Object;", sig := { parameters := [(.object "java/lang/Object"), (.object "java/lang/String")], returnType := some (.object "java/lang/Object") }, accessFlags := 9, code := some k11c1 }
/-- java/util/Objects -/
def k11 : Class := { plain "java/util/Objects" (some 0) with
  accessFlags := 49
  interfaces := #[]
  cf := some (fileOf pool11 42 #[] #[{ accessFlags := 2, nameIndex := 5, descriptorIndex := 6, attributes := #[] }, { accessFlags := 9, nameIndex := 45, descriptorIndex := 94, attributes := #[] }] 49 2 #[] #[])
  fields := #[]
  methods := #[k11m0, k11m1]
  instanceTypes := #[]
  staticTypes := #[]
  resolved := Array.replicate 184 none
  statics := none }

def pool12 : Array CpInfo := pool [(6, .class_ 8), (1, u "java/lang/Object"), (0, u "<init>"), (0, u "()V"), (1, .class_ 14), (1, u "java/lang/StringUTF16"), (31, u "$assertionsDisabled"), (0, u "Z"), (13, u "HI_BYTE_SHIFT"), (0, u "I"), (2, u "LO_BYTE_SHIFT"), (49, .methodref 12 116), (0, .nameAndType 117 118), (0, u "compress"), (0, u "([CI[BII)I"), (3, u "([CII)[B"), (138, u "coderFromArrayLen"), (0, u "([BI)B"), (106, .class_ 371), (1, u "java/lang/StringUTF16$LinesSpliterator"), (58, u "MAX_LENGTH"), (196, .class_ 628), (0, u "java/lang/StringUTF16$CodePointsSpliterator"), (0, .class_ 630), (0, u "java/lang/StringUTF16$CharsSpliterator")] 4

def k12m0 : Method := { name := "<init>", desc := "()V", sig := { parameters := [], returnType := none }, accessFlags := 0, code := none }
def k12c1 : Code := { maxStack := 2, maxLocals := 2, code := jdk_52_method_15_code, exceptionTable := #[], attributes := #[] }
def k12m1 : Method := { name := "coderFromArrayLen", desc := "([BI)B", sig := { parameters := [(.array .byte), .int], returnType := some .byte }, accessFlags := 8, code := some k12c1 }
def k12c2 : Code := { maxStack := 5, maxLocals := 6, code := jdk_52_method_16_code, exceptionTable := #[], attributes := #[] }
def k12m2 : Method := { name := "compress", desc := "([CII)[B", sig := { parameters := [(.array .char), .int, .int], returnType := some (.array .byte) }, accessFlags := 9, code := some k12c2 }
def k12c3 : Code := { maxStack := 3, maxLocals := 7, code := jdk_52_method_21_code, exceptionTable := #[], attributes := #[] }
def k12m3 : Method := { name := "compress", desc := "([CI[BII)I", sig := { parameters := [(.array .char), .int, (.array .byte), .int, .int], returnType := some .int }, accessFlags := 9, code := some k12c3 }
/-- java/lang/StringUTF16 -/
def k12 : Class := { plain "java/lang/StringUTF16" (some 0) with
  accessFlags := 48
  interfaces := #[]
  cf := some (fileOf pool12 12 #[.nestMembers #[627, 629, 369]] #[{ accessFlags := 0, nameIndex := 9, descriptorIndex := 10, attributes := #[] }, { accessFlags := 8, nameIndex := 261, descriptorIndex := 262, attributes := #[] }, { accessFlags := 9, nameIndex := 117, descriptorIndex := 122, attributes := #[] }, { accessFlags := 9, nameIndex := 117, descriptorIndex := 118, attributes := #[] }] 48 6 #[] #[{ accessFlags := 26, nameIndex := 61, descriptorIndex := 62, attributes := #[] }, { accessFlags := 26, nameIndex := 65, descriptorIndex := 62, attributes := #[] }, { accessFlags := 24, nameIndex := 430, descriptorIndex := 62, attributes := #[] }, { accessFlags := 4120, nameIndex := 46, descriptorIndex := 47, attributes := #[] }])
  fields := #[{ name := "HI_BYTE_SHIFT", type := .int, accessFlags := 26, slot := 0, constantValue := 0 }, { name := "LO_BYTE_SHIFT", type := .int, accessFlags := 26, slot := 1, constantValue := 0 }, { name := "MAX_LENGTH", type := .int, accessFlags := 24, slot := 2, constantValue := 0 }, { name := "$assertionsDisabled", type := .boolean, accessFlags := 4120, slot := 3, constantValue := 0 }]
  methods := #[k12m0, k12m1, k12m2, k12m3]
  instanceTypes := #[]
  staticTypes := #[.int, .int, .int, .boolean]
  resolved := Array.replicate 635 none
  statics := none }

def pool13 : Array CpInfo := pool [(2, .class_ 4), (1, u "java/lang/Object"), (0, u "<init>"), (0, u "()V"), (17, .class_ 26), (1, u "jdk/internal/util/Preconditions"), (28, .class_ 56), (0, u "jdk/internal/util/Preconditions$4"), (57, .class_ 115), (0, u "jdk/internal/util/Preconditions$1"), (7, u "SIOOBE_FORMATTER"), (0, u "Ljava/util/function/BiFunction;"), (0, .class_ 126), (0, u "jdk/internal/util/Preconditions$2"), (3, u "AIOOBE_FORMATTER"), (0, .class_ 132), (0, u "jdk/internal/util/Preconditions$3"), (3, u "IOOBE_FORMATTER")] 57

def k13m0 : Method := { name := "<init>", desc := "()V", sig := { parameters := [], returnType := none }, accessFlags := 1, code := none }
/-- jdk/internal/util/Preconditions -/
def k13 : Class := { plain "jdk/internal/util/Preconditions" (some 0) with
  accessFlags := 33
  interfaces := #[]
  cf := some (fileOf pool13 24 #[.nestMembers #[55, 131, 125, 114]] #[{ accessFlags := 1, nameIndex := 5, descriptorIndex := 6, attributes := #[] }] 33 2 #[] #[{ accessFlags := 25, nameIndex := 123, descriptorIndex := 124, attributes := #[] }, { accessFlags := 25, nameIndex := 130, descriptorIndex := 124, attributes := #[] }, { accessFlags := 25, nameIndex := 136, descriptorIndex := 124, attributes := #[] }])
  fields := #[{ name := "SIOOBE_FORMATTER", type := (.object "java/util/function/BiFunction"), accessFlags := 25, slot := 0, constantValue := 0 }, { name := "AIOOBE_FORMATTER", type := (.object "java/util/function/BiFunction"), accessFlags := 25, slot := 1, constantValue := 0 }, { name := "IOOBE_FORMATTER", type := (.object "java/util/function/BiFunction"), accessFlags := 25, slot := 2, constantValue := 0 }]
  methods := #[k13m0]
  instanceTypes := #[]
  staticTypes := #[(.object "java/util/function/BiFunction"), (.object "java/util/function/BiFunction"), (.object "java/util/function/BiFunction")]
  resolved := Array.replicate 194 none
  statics := some 2 }

def pool14 : Array CpInfo := pool [(9, u "<init>"), (6, .class_ 18), (1, u "java/lang/Object"), (0, u "()V"), (1, .class_ 23), (1, u "jdk/internal/util/ArraysSupport"), (0, u "LOG2_ARRAY_LONG_INDEX_SCALE"), (0, u "I"), (2, u "U"), (0, u "Ljdk/internal/misc/Unsafe;"), (8, u "BIG_ENDIAN"), (0, u "Z"), (8, u "LOG2_BYTE_BIT_SIZE"), (4, u "LOG2_ARRAY_INT_INDEX_SCALE"), (54, u "JLA"), (0, u "Ljdk/internal/access/JavaLangAccess;"), (11, u "LOG2_ARRAY_BOOLEAN_INDEX_SCALE"), (9, u "LOG2_ARRAY_BYTE_INDEX_SCALE"), (5, u "LOG2_ARRAY_CHAR_INDEX_SCALE"), (5, u "LOG2_ARRAY_SHORT_INDEX_SCALE"), (18, u "LOG2_ARRAY_FLOAT_INDEX_SCALE"), (24, u "LOG2_ARRAY_DOUBLE_INDEX_SCALE"), (89, u "T_BOOLEAN"), (2, u "T_CHAR"), (1, u "T_FLOAT"), (1, u "T_DOUBLE"), (1, u "T_BYTE"), (1, u "T_SHORT"), (1, u "T_INT"), (1, u "T_LONG"), (1, u "SOFT_MAX_ARRAY_LENGTH")] 83

def k14m0 : Method := { name := "<init>", desc := "()V", sig := { parameters := [], returnType := none }, accessFlags := 2, code := none }
/-- jdk/internal/util/ArraysSupport -/
def k14 : Class := { plain "jdk/internal/util/ArraysSupport" (some 0) with
  accessFlags := 33
  interfaces := #[]
  cf := some (fileOf pool14 21 #[] #[{ accessFlags := 2, nameIndex := 9, descriptorIndex := 19, attributes := #[] }] 33 16 #[] #[{ accessFlags := 24, nameIndex := 28, descriptorIndex := 29, attributes := #[] }, { accessFlags := 26, nameIndex := 38, descriptorIndex := 39, attributes := #[] }, { accessFlags := 25, nameIndex := 121, descriptorIndex := 25, attributes := #[] }, { accessFlags := 25, nameIndex := 131, descriptorIndex := 25, attributes := #[] }, { accessFlags := 25, nameIndex := 137, descriptorIndex := 25, attributes := #[] }, { accessFlags := 25, nameIndex := 143, descriptorIndex := 25, attributes := #[] }, { accessFlags := 25, nameIndex := 53, descriptorIndex := 25, attributes := #[] }, { accessFlags := 25, nameIndex := 24, descriptorIndex := 25, attributes := #[] }, { accessFlags := 25, nameIndex := 162, descriptorIndex := 25, attributes := #[] }, { accessFlags := 25, nameIndex := 187, descriptorIndex := 25, attributes := #[] }, { accessFlags := 26, nameIndex := 48, descriptorIndex := 25, attributes := #[] }, { accessFlags := 25, nameIndex := 277, descriptorIndex := 25, attributes := #[] }, { accessFlags := 25, nameIndex := 280, descriptorIndex := 25, attributes := #[] }, { accessFlags := 25, nameIndex := 282, descriptorIndex := 25, attributes := #[] }, { accessFlags := 25, nameIndex := 284, descriptorIndex := 25, attributes := #[] }, { accessFlags := 25, nameIndex := 286, descriptorIndex := 25, attributes := #[] }, { accessFlags := 25, nameIndex := 288, descriptorIndex := 25, attributes := #[] }, { accessFlags := 25, nameIndex := 290, descriptorIndex := 25, attributes := #[] }, { accessFlags := 25, nameIndex := 292, descriptorIndex := 25, attributes := #[] }, { accessFlags := 26, nameIndex := 108, descriptorIndex := 109, attributes := #[] }, { accessFlags := 25, nameIndex := 294, descriptorIndex := 25, attributes := #[] }])
  fields := #[{ name := "U", type := (.object "jdk/internal/misc/Unsafe"), accessFlags := 24, slot := 0, constantValue := 0 }, { name := "BIG_ENDIAN", type := .boolean, accessFlags := 26, slot := 1, constantValue := 0 }, { name := "LOG2_ARRAY_BOOLEAN_INDEX_SCALE", type := .int, accessFlags := 25, slot := 2, constantValue := 0 }, { name := "LOG2_ARRAY_BYTE_INDEX_SCALE", type := .int, accessFlags := 25, slot := 3, constantValue := 0 }, { name := "LOG2_ARRAY_CHAR_INDEX_SCALE", type := .int, accessFlags := 25, slot := 4, constantValue := 0 }, { name := "LOG2_ARRAY_SHORT_INDEX_SCALE", type := .int, accessFlags := 25, slot := 5, constantValue := 0 }, { name := "LOG2_ARRAY_INT_INDEX_SCALE", type := .int, accessFlags := 25, slot := 6, constantValue := 0 }, { name := "LOG2_ARRAY_LONG_INDEX_SCALE", type := .int, accessFlags := 25, slot := 7, constantValue := 0 }, { name := "LOG2_ARRAY_FLOAT_INDEX_SCALE", type := .int, accessFlags := 25, slot := 8, constantValue := 0 }, { name := "LOG2_ARRAY_DOUBLE_INDEX_SCALE", type := .int, accessFlags := 25, slot := 9, constantValue := 0 }, { name := "LOG2_BYTE_BIT_SIZE", type := .int, accessFlags := 26, slot := 10, constantValue := 0 }, { name := "T_BOOLEAN", type := .int, accessFlags := 25, slot := 11, constantValue := 0 }, { name := "T_CHAR", type := .int, accessFlags := 25, slot := 12, constantValue := 0 }, { name := "T_FLOAT", type := .int, accessFlags := 25, slot := 13, constantValue := 0 }, { name := "T_DOUBLE", type := .int, accessFlags := 25, slot := 14, constantValue := 0 }, { name := "T_BYTE", type := .int, accessFlags := 25, slot := 15, constantValue := 0 }, { name := "T_SHORT", type := .int, accessFlags := 25, slot := 16, constantValue := 0 }, { name := "T_INT", type := .int, accessFlags := 25, slot := 17, constantValue := 0 }, { name := "T_LONG", type := .int, accessFlags := 25, slot := 18, constantValue := 0 }, { name := "JLA", type := (.object "jdk/internal/access/JavaLangAccess"), accessFlags := 26, slot := 19, constantValue := 0 }, { name := "SOFT_MAX_ARRAY_LENGTH", type := .int, accessFlags := 25, slot := 20, constantValue := 0 }]
  methods := #[k14m0]
  instanceTypes := #[]
  staticTypes := #[(.object "jdk/internal/misc/Unsafe"), .boolean, .int, .int, .int, .int, .int, .int, .int, .int, .int, .int, .int, .int, .int, .int, .int, .int, .int, (.object "jdk/internal/access/JavaLangAccess"), .int]
  resolved := Array.replicate 378 none
  statics := none }

def pool15 : Array CpInfo := pool [(1, u "java/lang/Cloneable"), (0, .class_ 1), (0, u "java/lang/Object"), (0, .class_ 3)] 3

/-- java/lang/Cloneable -/
def k15 : Class := { plain "java/lang/Cloneable" (some 0) with
  accessFlags := 1537
  interfaces := #[]
  cf := some (fileOf pool15 2 #[] #[] 1537 4 #[] #[])
  fields := #[]
  methods := #[]
  instanceTypes := #[]
  staticTypes := #[]
  resolved := Array.replicate 8 none
  statics := none }

/-- the primitive byte -/
def k16 : Class := { plain "byte" none with kind := .primitive 'B', accessFlags := 0x411 }
/-- [B -/
def k17 : Class := { plain "[B" (some 0) with kind := .array 16 .byte, interfaces := #[15, 2], accessFlags := 1041 }

/-- the primitive char -/
def k18 : Class := { plain "char" none with kind := .primitive 'C', accessFlags := 0x411 }
/-- [C -/
def k19 : Class := { plain "[C" (some 0) with kind := .array 18 .char, interfaces := #[15, 2], accessFlags := 1041 }

def heap : Heap := #[{ cls := 7, slots := #[.long 0, .int 1, .null, .int 0, .null, .int 0, .int 0], vm := .statics 7 },
  { cls := 10, slots := #[.ref 3], vm := .statics 10 },
  { cls := 13, slots := #[.null, .null, .null], vm := .statics 13 },
  { cls := 10, slots := #[.null], vm := .none }]
def classes : Array Class := #[k0, k1, k2, k3, k4, k5, k6, k7, k8, k9, k10, k11, k12, k13, k14, k15, k16, k17, k18, k19]
def interned : List (Array UInt16 × Addr) := []
def slotsUsed : Nat := 12
def theMethod : MethodId := ⟨1, 1⟩
def args0 : Array Value := #[.int 5, .int 5, .int 5]
def aboutOver (below : List Frame) : State where
  vm := { classes := classes, interned := interned.toArray }
  heap := heap
  slotsUsed := slotsUsed
  threads := #[{ frames := .invoking theMethod args0 :: below }]
def below0 : List Frame := [.native { method := ⟨0, 0⟩, args := #[] }]
def about1 : State := aboutOver below0
def p0 : Program := .bare "" "" ""
def e0 : Env := launch0.env 0 0 0
theorem w_frames : about1.frames = Frame.invoking theMethod args0 :: below0 := rfl
set_option maxRecDepth 65536 in
theorem w_args : argsFit about1.vm theMethod args0 = true := by decide +kernel
set_option maxRecDepth 65536 in
theorem w_heap : heapFits about1 = true := by decide +kernel
set_option maxRecDepth 65536 in
theorem w_runnable : about1.curStatus? = some .runnable := by decide +kernel
set_option maxRecDepth 65536 in
theorem w_alone : about1.alone = true := by decide +kernel
set_option maxRecDepth 65536 in
theorem w_named : about1.methodNamed? x = some theMethod := by decide +kernel
set_option maxRecDepth 65536 in
theorem w_hears : about1.hears theMethod below0 = true := by decide +kernel
set_option maxRecDepth 65536 in
theorem w_ripe : about1.ripe theMethod args0 below0 = true := by decide +kernel
theorem w_running : about1.status = .running := rfl
set_option maxRecDepth 65536 in
theorem w_room : about1.hasRoom e0.platform room_1 = true :=
  launch0.hasRoom_least _ room_1 (by decide +kernel) (by decide +kernel) (by decide +kernel) (by decide +kernel) (by decide +kernel) (by decide +kernel)
theorem allAtoms_all (ts : List Jvm.Cond) (a : Array Jvm.Value) (st : Jvm.State) : (allAtoms ts).before a st = ts.all (fun c => c.before a st) := by
  induction ts with
  | nil => rfl
  | cons c t ih =>
    show (Jvm.Cond.and c (allAtoms t)).before a st = _
    rw [Jvm.Cond.before_and, ih, List.all_cons]
def words1 : List Jvm.Cond := Jvm.Cond.code x code maxLocals ret :: tables_1
/-- a 'code' word, met by the world's own term for the bytes: nothing is compared byte by byte -/
theorem code_word {y : MethodName} {bytes : ByteArray} {mx : Nat} {rt : Option FieldType} {a : Array Value} {s : State} {m : MethodId} {meth : Method} {c : Code} (h1 : s.methodNamed? y = some m) (h2 : s.vm.method? m = some meth) (h3 : meth.code = some c) (h4 : c.code = bytes)
    (h5 : (c.maxLocals == mx && c.exceptionTable.isEmpty && decide (c.maxStack ≤ mostOperands) && decide (meth.sig.returnType = rt) && !meth.locks && decide (parseMethodDescriptor y.desc = some meth.sig)) = true) : (Jvm.Cond.code y bytes mx rt).before a s = true := by
  simp only [Bool.and_eq_true, beq_iff_eq, Bool.not_eq_true', decide_eq_true_eq] at h5
  obtain ⟨⟨⟨⟨⟨g1, g2⟩, g3⟩, g4⟩, g5⟩, g6⟩ := h5
  simp [Cond.before, Cond.holds, Cond.value, h1, h2, h3, h4, g1, g2, g3, g4, g5, g6]
def isCode : Jvm.Cond → Bool
  | .code _ _ _ _ => true
  | _ => false
theorem all_split {L : List Jvm.Cond} {P : Jvm.Cond → Bool} (h1 : L.all (fun c => isCode c || P c) = true) (h2 : ∀ c ∈ L.filter isCode, P c = true) : L.all P = true := by
  refine List.all_eq_true.mpr fun c hc => ?_
  have h := List.all_eq_true.mp h1 c hc
  rcases Bool.eq_false_or_eq_true (isCode c) with hi | hi
  · exact h2 c (List.mem_filter.mpr ⟨hc, hi⟩)
  · simpa [hi] using h
set_option maxRecDepth 65536 in
theorem w_c0 : (Jvm.Cond.code x code maxLocals ret).before args0 about1 = true := code_word (m := ⟨1, 1⟩) (meth := k1m1) (c := k1c1) (by decide +kernel) rfl rfl rfl (by decide +kernel)
set_option maxRecDepth 65536 in
theorem w_c1 : (Jvm.Cond.code ({ cls := "java/lang/String", name := "valueOf", desc := "(C)Ljava/lang/String;" } : Jvm.MethodName) jdk_42_method_139_code (1 : Nat) (Option.some (Jvm.ClassFile.FieldType.object "java/lang/String"))).before args0 about1 = true := code_word (m := ⟨7, 2⟩) (meth := k7m2) (c := k7c2) (by decide +kernel) rfl rfl rfl (by decide +kernel)
set_option maxRecDepth 65536 in
theorem w_c2 : (Jvm.Cond.code ({ cls := "java/lang/StringLatin1", name := "canEncode", desc := "(C)Z" } : Jvm.MethodName) jdk_43_method_3_code (1 : Nat) (Option.some Jvm.ClassFile.FieldType.boolean)).before args0 about1 = true := code_word (m := ⟨8, 1⟩) (meth := k8m1) (c := k8c1) (by decide +kernel) rfl rfl rfl (by decide +kernel)
set_option maxRecDepth 65536 in
theorem w_c3 : (Jvm.Cond.code ({ cls := "java/lang/StringLatin1", name := "toBytes", desc := "(C)[B" } : Jvm.MethodName) jdk_43_method_46_code (1 : Nat) (Option.some (Jvm.ClassFile.FieldType.array Jvm.ClassFile.FieldType.byte))).before args0 about1 = true := code_word (m := ⟨8, 2⟩) (meth := k8m2) (c := k8c2) (by decide +kernel) rfl rfl rfl (by decide +kernel)
set_option maxRecDepth 65536 in
theorem w_c4 : (Jvm.Cond.code ({ cls := "java/lang/String", name := "<init>", desc := "([BB)V" } : Jvm.MethodName) jdk_42_method_151_code (3 : Nat) (Option.none : Option Jvm.ClassFile.FieldType)).before args0 about1 = true := code_word (m := ⟨7, 4⟩) (meth := k7m4) (c := k7c4) (by decide +kernel) rfl rfl rfl (by decide +kernel)
set_option maxRecDepth 65536 in
theorem w_c5 : (Jvm.Cond.code ({ cls := "java/lang/Object", name := "<init>", desc := "()V" } : Jvm.MethodName) object_method_1_code (1 : Nat) (Option.none : Option Jvm.ClassFile.FieldType)).before args0 about1 = true := code_word (m := ⟨0, 0⟩) (meth := k0m0) (c := k0c0) (by decide +kernel) rfl rfl rfl (by decide +kernel)
set_option maxRecDepth 65536 in
theorem w_c6 : (Jvm.Cond.code ({ cls := "com/example/shapewright/shapewright/testsuite/TestOutcome", name := "<init>", desc := "(Ljava/lang/String;)V" } : Jvm.MethodName) prog_45_method_1_code (2 : Nat) (Option.none : Option Jvm.ClassFile.FieldType)).before args0 about1 = true := code_word (m := ⟨10, 0⟩) (meth := k10m0) (c := k10c0) (by decide +kernel) rfl rfl rfl (by decide +kernel)
set_option maxRecDepth 65536 in
theorem w_c7 : (Jvm.Cond.code ({ cls := "java/lang/Record", name := "<init>", desc := "()V" } : Jvm.MethodName) jdk_30_method_1_code (1 : Nat) (Option.none : Option Jvm.ClassFile.FieldType)).before args0 about1 = true := code_word (m := ⟨9, 0⟩) (meth := k9m0) (c := k9c0) (by decide +kernel) rfl rfl rfl (by decide +kernel)
set_option maxRecDepth 65536 in
theorem w_c8 : (Jvm.Cond.code ({ cls := "com/example/shapewright/shapewright/testsuite/TestOutcome", name := "passed", desc := "()Z" } : Jvm.MethodName) prog_45_method_3_code (1 : Nat) (Option.some Jvm.ClassFile.FieldType.boolean)).before args0 about1 = true := code_word (m := ⟨10, 2⟩) (meth := k10m2) (c := k10c2) (by decide +kernel) rfl rfl rfl (by decide +kernel)
set_option maxRecDepth 65536 in
theorem w_c9 : (Jvm.Cond.code ({ cls := "com/example/shapewright/shapewright/testsuite/TestOutcome", name := "failed", desc := "(Ljava/lang/String;)Lcom/example/shapewright/shapewright/testsuite/TestOutcome;" } : Jvm.MethodName) prog_45_method_2_code (1 : Nat) (Option.some (Jvm.ClassFile.FieldType.object "com/example/shapewright/shapewright/testsuite/TestOutcome"))).before args0 about1 = true := code_word (m := ⟨10, 1⟩) (meth := k10m1) (c := k10c1) (by decide +kernel) rfl rfl rfl (by decide +kernel)
set_option maxRecDepth 65536 in
theorem w_c10 : (Jvm.Cond.code ({ cls := "java/util/Objects", name := "requireNonNull", desc := "(Ljava/lang/Object;Ljava/lang/String;)Ljava/lang/Object;" } : Jvm.MethodName) jdk_31_method_11_code (2 : Nat) (Option.some (Jvm.ClassFile.FieldType.object "java/lang/Object"))).before args0 about1 = true := code_word (m := ⟨11, 1⟩) (meth := k11m1) (c := k11c1) (by decide +kernel) rfl rfl rfl (by decide +kernel)
set_option maxRecDepth 65536 in
theorem w_c11 : (Jvm.Cond.code ({ cls := "java/lang/String", name := "<init>", desc := "([C)V" } : Jvm.MethodName) jdk_42_method_3_code (2 : Nat) (Option.none : Option Jvm.ClassFile.FieldType)).before args0 about1 = true := code_word (m := ⟨7, 1⟩) (meth := k7m1) (c := k7c1) (by decide +kernel) rfl rfl rfl (by decide +kernel)
set_option maxRecDepth 65536 in
theorem w_c12 : (Jvm.Cond.code ({ cls := "java/lang/String", name := "<init>", desc := "([CIILjava/lang/Void;)V" } : Jvm.MethodName) jdk_42_method_149_code (6 : Nat) (Option.none : Option Jvm.ClassFile.FieldType)).before args0 about1 = true := code_word (m := ⟨7, 3⟩) (meth := k7m3) (c := k7c3) (by decide +kernel) rfl rfl rfl (by decide +kernel)
set_option maxRecDepth 65536 in
theorem w_c13 : (Jvm.Cond.code ({ cls := "java/lang/StringUTF16", name := "compress", desc := "([CII)[B" } : Jvm.MethodName) jdk_52_method_16_code (6 : Nat) (Option.some (Jvm.ClassFile.FieldType.array Jvm.ClassFile.FieldType.byte))).before args0 about1 = true := code_word (m := ⟨12, 2⟩) (meth := k12m2) (c := k12c2) (by decide +kernel) rfl rfl rfl (by decide +kernel)
set_option maxRecDepth 65536 in
theorem w_c14 : (Jvm.Cond.code ({ cls := "java/lang/StringUTF16", name := "compress", desc := "([CI[BII)I" } : Jvm.MethodName) jdk_52_method_21_code (7 : Nat) (Option.some Jvm.ClassFile.FieldType.int)).before args0 about1 = true := code_word (m := ⟨12, 3⟩) (meth := k12m3) (c := k12c3) (by decide +kernel) rfl rfl rfl (by decide +kernel)
set_option maxRecDepth 65536 in
theorem w_c15 : (Jvm.Cond.code ({ cls := "java/lang/StringUTF16", name := "coderFromArrayLen", desc := "([BI)B" } : Jvm.MethodName) jdk_52_method_15_code (2 : Nat) (Option.some Jvm.ClassFile.FieldType.byte)).before args0 about1 = true := code_word (m := ⟨12, 1⟩) (meth := k12m1) (c := k12c1) (by decide +kernel) rfl rfl rfl (by decide +kernel)
def codes1 : List Jvm.Cond := [Jvm.Cond.code x code maxLocals ret, Jvm.Cond.code ({ cls := "java/lang/String", name := "valueOf", desc := "(C)Ljava/lang/String;" } : Jvm.MethodName) jdk_42_method_139_code (1 : Nat) (Option.some (Jvm.ClassFile.FieldType.object "java/lang/String")), Jvm.Cond.code ({ cls := "java/lang/StringLatin1", name := "canEncode", desc := "(C)Z" } : Jvm.MethodName) jdk_43_method_3_code (1 : Nat) (Option.some Jvm.ClassFile.FieldType.boolean), Jvm.Cond.code ({ cls := "java/lang/StringLatin1", name := "toBytes", desc := "(C)[B" } : Jvm.MethodName) jdk_43_method_46_code (1 : Nat) (Option.some (Jvm.ClassFile.FieldType.array Jvm.ClassFile.FieldType.byte)), Jvm.Cond.code ({ cls := "java/lang/String", name := "<init>", desc := "([BB)V" } : Jvm.MethodName) jdk_42_method_151_code (3 : Nat) (Option.none : Option Jvm.ClassFile.FieldType), Jvm.Cond.code ({ cls := "java/lang/Object", name := "<init>", desc := "()V" } : Jvm.MethodName) object_method_1_code (1 : Nat) (Option.none : Option Jvm.ClassFile.FieldType), Jvm.Cond.code ({ cls := "com/example/shapewright/shapewright/testsuite/TestOutcome", name := "<init>", desc := "(Ljava/lang/String;)V" } : Jvm.MethodName) prog_45_method_1_code (2 : Nat) (Option.none : Option Jvm.ClassFile.FieldType), Jvm.Cond.code ({ cls := "java/lang/Record", name := "<init>", desc := "()V" } : Jvm.MethodName) jdk_30_method_1_code (1 : Nat) (Option.none : Option Jvm.ClassFile.FieldType), Jvm.Cond.code ({ cls := "com/example/shapewright/shapewright/testsuite/TestOutcome", name := "passed", desc := "()Z" } : Jvm.MethodName) prog_45_method_3_code (1 : Nat) (Option.some Jvm.ClassFile.FieldType.boolean), Jvm.Cond.code ({ cls := "com/example/shapewright/shapewright/testsuite/TestOutcome", name := "failed", desc := "(Ljava/lang/String;)Lcom/example/shapewright/shapewright/testsuite/TestOutcome;" } : Jvm.MethodName) prog_45_method_2_code (1 : Nat) (Option.some (Jvm.ClassFile.FieldType.object "com/example/shapewright/shapewright/testsuite/TestOutcome")), Jvm.Cond.code ({ cls := "java/util/Objects", name := "requireNonNull", desc := "(Ljava/lang/Object;Ljava/lang/String;)Ljava/lang/Object;" } : Jvm.MethodName) jdk_31_method_11_code (2 : Nat) (Option.some (Jvm.ClassFile.FieldType.object "java/lang/Object")), Jvm.Cond.code ({ cls := "java/lang/String", name := "<init>", desc := "([C)V" } : Jvm.MethodName) jdk_42_method_3_code (2 : Nat) (Option.none : Option Jvm.ClassFile.FieldType), Jvm.Cond.code ({ cls := "java/lang/String", name := "<init>", desc := "([CIILjava/lang/Void;)V" } : Jvm.MethodName) jdk_42_method_149_code (6 : Nat) (Option.none : Option Jvm.ClassFile.FieldType), Jvm.Cond.code ({ cls := "java/lang/StringUTF16", name := "compress", desc := "([CII)[B" } : Jvm.MethodName) jdk_52_method_16_code (6 : Nat) (Option.some (Jvm.ClassFile.FieldType.array Jvm.ClassFile.FieldType.byte)), Jvm.Cond.code ({ cls := "java/lang/StringUTF16", name := "compress", desc := "([CI[BII)I" } : Jvm.MethodName) jdk_52_method_21_code (7 : Nat) (Option.some Jvm.ClassFile.FieldType.int), Jvm.Cond.code ({ cls := "java/lang/StringUTF16", name := "coderFromArrayLen", desc := "([BI)B" } : Jvm.MethodName) jdk_52_method_15_code (2 : Nat) (Option.some Jvm.ClassFile.FieldType.byte)]
set_option maxRecDepth 65536 in
theorem codes_eq : words1.filter isCode = codes1 := rfl
theorem w_codes : ∀ c ∈ words1.filter isCode, c.before args0 about1 = true := by
  rw [codes_eq]
  intro c hc
  simp only [codes1, List.mem_cons, List.not_mem_nil, or_false] at hc
  rcases hc with rfl | rfl | rfl | rfl | rfl | rfl | rfl | rfl | rfl | rfl | rfl | rfl | rfl | rfl | rfl | rfl
  · exact w_c0
  · exact w_c1
  · exact w_c2
  · exact w_c3
  · exact w_c4
  · exact w_c5
  · exact w_c6
  · exact w_c7
  · exact w_c8
  · exact w_c9
  · exact w_c10
  · exact w_c11
  · exact w_c12
  · exact w_c13
  · exact w_c14
  · exact w_c15
set_option maxRecDepth 65536 in
theorem w_t1 : (words1.take 24).all (fun c => isCode c || c.before args0 about1) = true := by decide +kernel
set_option maxRecDepth 65536 in
theorem w_t2 : ((words1.drop 24).take 24).all (fun c => isCode c || c.before args0 about1) = true := by decide +kernel
set_option maxRecDepth 65536 in
theorem w_t3 : (((words1.drop 24).drop 24).take 24).all (fun c => isCode c || c.before args0 about1) = true := by decide +kernel
set_option maxRecDepth 65536 in
theorem w_t4 : (((words1.drop 24).drop 24).drop 24).all (fun c => isCode c || c.before args0 about1) = true := by decide +kernel
theorem w_tables : (allAtoms (Jvm.Cond.code x code maxLocals ret :: tables_1)).before args0 about1 = true := by
  rw [allAtoms_all]
  show words1.all (fun c => c.before args0 about1) = true
  refine all_split ?_ w_codes
  rw [← List.take_append_drop 24 words1, List.all_append, w_t1, ← List.take_append_drop 24 (words1.drop 24), List.all_append, w_t2, ← List.take_append_drop 24 ((words1.drop 24).drop 24), List.all_append, w_t3, w_t4]
  rfl
set_option maxRecDepth 65536 in
theorem w_rest : rest_1_c.before args0 about1 = true := by decide +kernel
set_option maxRecDepth 65536 in
theorem w_case : (Jvm.Cond.and given_1 narrow_1).before args0 about1 = true := by decide +kernel
set_option maxRecDepth 65536 in
theorem w_consts : constsHeld consts_1 about1 := Jvm.Lit.constsHeldB_iff.mp (by decide +kernel)
theorem w_applies : (headSpec (Jvm.Cond.code x code maxLocals ret :: tables_1) room_1).applies x e0.platform about1 = true :=
  (Spec.applies_iff w_frames).mpr ⟨w_running, w_runnable, w_alone, w_named, w_hears, w_ripe, w_room, w_tables⟩
theorem atStart : AtStart classFile x code maxLocals ret World_1 tables_1 room_1 Calls_1 rest_1 Pre_1 launch0 p0 e0 about1 theMethod args0 below0 :=
  ⟨lists_1, trivial, launch0.admits_env _ _ _, launch0.least_env, fairChoices_fair.cas, fairChoices_fair.clock, w_frames, w_args, w_heap, w_applies, ⟨w_consts, trivial⟩, w_rest, w_case⟩
end start1
theorem witness_1 : WitnessClaimed_1 := ⟨start1.p0, start1.e0, start1.about1, start1.theMethod, start1.args0, start1.below0, start1.atStart⟩
end Jvm.Pilot.@@N@@
